import JvmDerived
import JvmDerived.Pilot.@@N@@Statement
import JvmDerived.Pilot.@@N@@Code
set_option linter.unusedVariables false
set_option linter.unusedSimpArgs false
namespace Jvm.Own
open Jvm Jvm.ClassFile Sem Op Lib Jvm.Free Jvm.Stand Jvm.LawKit Jvm.RoadKit Bundle
section Base
variable {p : Program} {l : Launch} {e : Env} {R : Room} {s : State} {m : MethodId} {args : Array Value} {below : List Frame} {meth : Method} {c : Code} {T : State} {locs : List Loc} {cells slots : Nat} {Z : State} {a0 : Array Value} {h : Heap}
/-- from t the run ends, and its end is as Qf says -/
def Go (p : Program) (e : Env) (below : List Frame) (Qf : Outcome → State → Prop) (t : State) : Prop :=
  ∃ s₂ o, Steps p.tables e below t s₂ ∧ s₂.status = .running ∧ Ended s₂ below o ∧ Qf o s₂
theorem Go.step {Qf : Outcome → State → Prop} {t t' : State} (k : ∀ u, Steps p.tables e below t' u → Steps p.tables e below t u) (h : Go p e below Qf t') : Go p e below Qf t := by
  obtain ⟨s₂, o, h1, h2⟩ := h
  exact ⟨s₂, o, k _ h1, h2⟩
theorem own_join {Qf : Outcome → State → Prop} {t t' : State} (h : Go p e below Qf t → Go p e below Qf t') (k : Go p e below Qf t) : Go p e below Qf t' := h k
theorem own_joinA {α : Type} {P : α → Prop} {Qf : Outcome → State → Prop} {t : α → State} {t' : State} (h : (∀ v, P v → Go p e below Qf (t v)) → Go p e below Qf t') (k : ∀ v, P v → Go p e below Qf (t v)) : Go p e below Qf t' := h k
theorem own_top {Qf : Outcome → State → Prop} {pc : Nat} {Ls : Array Slot} {rest : List Value} {a b : Value} (h : a = b) (k : Go p e below Qf (T.setTop (mkF m pc Ls (b :: rest)))) : Go p e below Qf (T.setTop (mkF m pc Ls (a :: rest))) := by subst h; exact k
/-- the end of a narrow walk -/
def QN (s : State) (rm : Room) (Q : Option Value → Heap → List Loc → Prop) (o : Outcome) (U' : State) : Prop := ∃ v L, o = .returned v ∧ Q v U'.heap L ∧ FrameEnd s o U' L rm.cells rm.slots
abbrev CN (l : Launch) (Z : State) (y : MethodName) (ws : List Jvm.Cond) (rm : Room) (as : Array Value) (h0 : Heap) (Q : Option Value → Heap → List Loc → Prop) : Prop :=
  MetFree l y (head1 ws rm) (fun a U => a = as ∧ Z.Warmed39 U.vm ∧ U.heap = h0) (fun _ _ _ _ _ => True) (fun _ U o U' => ∃ v L, o = .returned v ∧ Q v U'.heap L ∧ FrameEnd U o U' L rm.cells rm.slots)
theorem CN.of {y : MethodName} {bytes : ByteArray} {maxL : Nat} {ret : Option FieldType} {ws : List Jvm.Cond} {rm : Room} {as : Array Value} {h0 : Heap} {Q : Option Value → Heap → List Loc → Prop} {L0 : Array Slot}
    (hp : plainFor y = true) (ef : ∀ m, entryFrame m as maxL = mkF m 0 L0 [])
    (body : ∀ (p : Program) (e : Env) (s : State) (m : MethodId) (below : List Frame) (meth : Method) (c : Code) (s₁ : State), p.tables.exec = Jvm.exec → c.code = bytes → c.maxLocals = maxL → meth.sig.returnType = ret → meth.locks = false → Z.Warmed39 s.vm → s.vm.findClass y.cls = some m.cls → meth.name = y.name → Stand p l e rm s m as below meth c s₁ [] 0 0 → s₁.heap = h0 → Go p e below (QN s rm Q) (s₁.setTop (mkF m 0 L0 []))) :
    CN l Z y (Jvm.Cond.code y bytes maxL ret :: ws) rm as h0 Q := by
  refine MetFree.of_bodySF hp hisR ?_
  intro p e s m args below meth c s₁ Bd hml0 hP hK
  obtain ⟨rfl, hZ, hh⟩ := hP
  have q := body p e s m below meth c s₁ Bd.exec Bd.bytes hml0 Bd.returns Bd.notSynchronized hZ (findClass_of_methodNamed Bd.named) (name_of_methodNamed Bd.named Bd.method).1 (Stand.of_body Bd) (by rw [← hh, Bd.state]; rfl)
  rw [← ef m] at q
  exact q
theorem Go.ret {Q : Option Value → Heap → List Loc → Prop} {rm : Room} {t : State} (X : Stand p l e R s m args below meth c T locs cells slots) (hlk : meth.locks = false) (v : Option Value) (hv : meth.sig.returnType = none → v = none) (hc : cells ≤ rm.cells) (hs : slots ≤ rm.slots) (q : Q v T.heap locs)
    (st : ∀ fs, (∀ (f : JFrame) (acts : List Action), f.method = m → f.locked = none → f.entered = [] → (doReturn e (T.setTop f) acts v).1 = T.setFrames fs) → Steps p.tables e below t (T.setFrames fs)) : Go p e below (QN s rm Q) t := by
  obtain ⟨fs, hr, hrun, hended, hW, hsame⟩ := X.leave (v := v) hv hlk
  exact ⟨_, _, st fs hr, hrun, hended, v, locs, rfl, q, ⟨v, rfl⟩, hW, hsame.mono hc hs⟩
/-- a value comes back -/
theorem Go.retV {Q : Option Value → Heap → List Loc → Prop} {rm : Room} (X : Stand p l e R s m args below meth c T locs cells slots) (hx : p.tables.exec = Jvm.exec) (hlk : meth.locks = false) {pc : Nat} {Ls : Array Slot} {w : Value} {t : FieldType} {i : Instr} {rest : List Value} (hret : meth.sig.returnType = some t) (hn : narrow t w = w)
    (hi : (i = .ireturn ∧ (t = .int ∨ t = .boolean ∨ t = .byte ∨ t = .char ∨ t = .short) ∧ ∃ z, w = .int z) ∨ (i = .lreturn ∧ t = .long ∧ ∃ z, w = .long z) ∨ (i = .dreturn ∧ t = .double ∧ ∃ z, w = .double z) ∨ (i = .freturn ∧ t = .float ∧ ∃ z, w = .float z) ∨ (i = .areturn ∧ t.isReference = true ∧ w.isRef = true))
    (hd : decode c.code pc = .ok (i, 1)) (hc : cells ≤ rm.cells) (hs : slots ≤ rm.slots) (q : Q (some w) T.heap locs) : Go p e below (QN s rm Q) (T.setTop (mkF m pc Ls (w :: rest))) :=
  Go.ret X hlk (some w) (fun h => by rw [hret] at h; cases h) hc hs q fun fs hr => retOut X hx hret hn hi hd hr
/-- nothing comes back -/
theorem Go.ret0 {Q : Option Value → Heap → List Loc → Prop} {rm : Room} (X : Stand p l e R s m args below meth c T locs cells slots) (hx : p.tables.exec = Jvm.exec) (hlk : meth.locks = false) {pc : Nat} {Ls : Array Slot} (hret : meth.sig.returnType = none)
    (hd : decode c.code pc = .ok (.return_, 1)) (hc : cells ≤ rm.cells) (hs : slots ≤ rm.slots) (q : Q none T.heap locs) : Go p e below (QN s rm Q) (T.setTop (mkF m pc Ls [])) :=
  Go.ret X hlk none (fun _ => rfl) hc hs q fun fs hr => X.returnOut hx hret hd hr
/-- what pays a call -/
abbrev Pay (l : Launch) (R : Room) (p : Program) (e : Env) (below : List Frame) (s : State) (args : Array Value) (y : MethodName) (W : Nat) (as : Array Value) (h : Heap) (kc ks : Nat) (QQ : Option Value → Heap → List Loc → Prop) : Prop :=
  Back l R p e below s args y 3 W (fun P a => a = as ∧ P.U.heap = h ∧ P.cells + kc ≤ R.cells ∧ P.slots + ks ≤ R.slots) (fun P _ v B => ∃ L, QQ v B.U.heap L ∧ B.locs = P.locs ++ L ∧ B.cells = P.cells + kc ∧ B.slots = P.slots + ks)
theorem goS (X : Stand p l e R s m args below meth c T locs cells slots) (hx : p.tables.exec = Jvm.exec) (hZ : Z.Warmed39 s.vm) {own : String} {index : Nat} {y : MethodName} {bytes : ByteArray} {maxL : Nat} {ret : Option FieldType} (hown : s.vm.findClass own = some m.cls)
    (w1 : (Jvm.Cond.methodLink own index y).before a0 Z = true) (w2 : (Jvm.Cond.static y).before a0 Z = true) (w3 : (Jvm.Cond.initialized y.cls).before a0 Z = true) (w4 : (Jvm.Cond.code y bytes maxL ret).before a0 Z = true) (hy : y.cls ≠ "java/lang/invoke/MethodHandle" ∧ y.cls ≠ "java/lang/invoke/VarHandle")
    {W kc ks : Nat} {as : Array Value} {QQ : Option Value → Heap → List Loc → Prop} (K : Pay l R p e below s args y W as h kc ks QQ) (eT : T.heap = h) {g : JFrame} (hg : g.method = m) (hsize : g.locals.size = c.maxLocals) {argsL rest : List Value} (has : argsL.toArray = as)
    (hlen : ∀ sig, parseMethodDescriptor y.desc = some sig → argsL.length = sig.parameters.length) (hstack : g.stack = argsL.reverse ++ rest) (hW : 2 * g.monitorRoom + (rest.map fun v => v.category).sum ≤ W) (hd : decode c.code g.pc = .ok (.invokestatic index, 3)) (hc : cells + kc ≤ R.cells) (hs : slots + ks ≤ R.slots) :
    ∃ v T' L, Stand p l e R s m args below meth c T' (locs ++ L) (cells + kc) (slots + ks) ∧ QQ v T'.heap L ∧ ∀ u, Steps p.tables e below (T'.setTop { g with pc := g.pc + 3, stack := v.toList ++ rest }) u → Steps p.tables e below (T.setTop g) u := by
  obtain ⟨v, _, ⟨T', L', k', n'⟩, -, X', ⟨L, hQ, l1, y1, z1⟩, st⟩ := Jvm.LawKit.callS X hx hown (mvT hZ w1) (mvT hZ w2) (mvT hZ w3) (mvT hZ w4) hy K hg hsize hlen hstack hW hd (fun _ _ => ⟨has, eT, hc, hs⟩)
  try dsimp only [Pt.U, Pt.locs, Pt.cells, Pt.slots] at X' l1 y1 z1 st hQ
  subst l1 y1 z1
  exact ⟨v, T', L, X', hQ, st⟩
theorem goC (X : Stand p l e R s m args below meth c T locs cells slots) (hx : p.tables.exec = Jvm.exec) (hZ : Z.Warmed39 s.vm) {own : String} {index : Nat} {y : MethodName} {bytes : ByteArray} {maxL : Nat} (hown : s.vm.findClass own = some m.cls)
    (hy1 : y.name = "<init>") (w1 : (Jvm.Cond.methodLink own index y).before a0 Z = true) (w2 : (Jvm.Cond.instanceMethod y).before a0 Z = true) (w4 : (Jvm.Cond.code y bytes maxL none).before a0 Z = true) (hy : y.cls ≠ "java/lang/invoke/MethodHandle" ∧ y.cls ≠ "java/lang/invoke/VarHandle")
    {W kc ks : Nat} {as : Array Value} {QQ : Option Value → Heap → List Loc → Prop} (K : Pay l R p e below s args y W as h kc ks QQ) (eT : T.heap = h) {g : JFrame} (hg : g.method = m) (hsize : g.locals.size = c.maxLocals) {a : Addr} {argsL rest : List Value} (has : (.ref a :: argsL).toArray = as)
    (hlen : ∀ sig, parseMethodDescriptor y.desc = some sig → argsL.length = sig.parameters.length) (hstack : g.stack = argsL.reverse ++ .ref a :: rest) (hW : 2 * g.monitorRoom + (rest.map fun v => v.category).sum ≤ W) (hd : decode c.code g.pc = .ok (.invokespecial index, 3)) (hc : cells + kc ≤ R.cells) (hs : slots + ks ≤ R.slots) :
    ∃ v T' L, Stand p l e R s m args below meth c T' (locs ++ L) (cells + kc) (slots + ks) ∧ QQ v T'.heap L ∧ ∀ u, Steps p.tables e below (T'.setTop { g with pc := g.pc + 3, stack := v.toList ++ rest }) u → Steps p.tables e below (T.setTop g) u := by
  obtain ⟨v, _, ⟨T', L', k', n'⟩, -, X', ⟨L, hQ, l1, y1, z1⟩, st⟩ := X.specialBack hx hy1 hown (mvT hZ w1) (mvT hZ w2) (mvT hZ w4) hy K hg hsize (Steps.refl _) hlen hstack hW hd (fun _ _ => ⟨has, eT, hc, hs⟩)
  try dsimp only [Pt.U, Pt.locs, Pt.cells, Pt.slots] at X' l1 y1 z1 st hQ
  subst l1 y1 z1
  exact ⟨v, T', L, X', hQ, fun u k => st.trans k⟩
theorem goV (X : Stand p l e R s m args below meth c T locs cells slots) (hx : p.tables.exec = Jvm.exec) (hZ : Z.Warmed39 s.vm) {own C : String} {index : Nat} {y z : MethodName} (hown : s.vm.findClass own = some m.cls)
    (w1 : (Jvm.Cond.methodLink own index y).before a0 Z = true) (w2 : (Jvm.Cond.declares y).before a0 Z = true) (hnf : NotFace s y) (w3 : (Jvm.Cond.selects C y z).before a0 Z = true) (w4 : (Jvm.Cond.instanceMethod z).before a0 Z = true) (hy : y.cls ≠ "java/lang/invoke/MethodHandle" ∧ y.cls ≠ "java/lang/invoke/VarHandle")
    {W kc ks : Nat} {as : Array Value} {QQ : Option Value → Heap → List Loc → Prop} (K : Pay l R p e below s args z W as h kc ks QQ) (eT : T.heap = h) {a : Addr} (E : Exa Z h a C) {g : JFrame} (hg : g.method = m) (hsize : g.locals.size = c.maxLocals) {argsL rest : List Value} (has : (.ref a :: argsL).toArray = as)
    (hlen : ∀ sig, parseMethodDescriptor y.desc = some sig → argsL.length = sig.parameters.length) (hstack : g.stack = argsL.reverse ++ .ref a :: rest) (hW : 2 * g.monitorRoom + (rest.map fun v => v.category).sum ≤ W) (hd : decode c.code g.pc = .ok (.invokevirtual index, 3)) (hc : cells + kc ≤ R.cells) (hs : slots + ks ≤ R.slots) :
    ∃ v T' L, Stand p l e R s m args below meth c T' (locs ++ L) (cells + kc) (slots + ks) ∧ QQ v T'.heap L ∧ ∀ u, Steps p.tables e below (T'.setTop { g with pc := g.pc + 3, stack := v.toList ++ rest }) u → Steps p.tables e below (T.setTop g) u := by
  obtain ⟨cB, kB, q1, q2, q3⟩ := isOf hZ eT E
  obtain ⟨v, _, ⟨T', L', k', n'⟩, -, X', ⟨L, hQ, l1, y1, z1⟩, st⟩ := X.virtualBack hx hown (mvT hZ w1) (mvT hZ w2) hnf (mvT hZ w3) (mvT hZ w4) hy K q1 q3 hg hsize (Steps.refl _) hlen hstack hW hd (fun _ _ => ⟨has, eT, hc, hs⟩)
  try dsimp only [Pt.U, Pt.locs, Pt.cells, Pt.slots] at X' l1 y1 z1 st hQ
  subst l1 y1 z1
  exact ⟨v, T', L, X', hQ, fun u k => st.trans k⟩
/-- .. whose named class does not declare it -/
theorem goU (X : Stand p l e R s m args below meth c T locs cells slots) (hx : p.tables.exec = Jvm.exec) (hZ : Z.Warmed39 s.vm) {own C owner : String} {index : Nat} {y z : MethodName} (hown : s.vm.findClass own = some m.cls)
    (w1 : (Jvm.Cond.methodLink own index y).before a0 Z = true) (w5 : (Jvm.Cond.sameMethod y.cls owner y.name y.desc).before a0 Z = true) (w2 : (Jvm.Cond.declares ⟨owner, y.name, y.desc⟩).before a0 Z = true) (w3 : (Jvm.Cond.selects C y z).before a0 Z = true) (w4 : (Jvm.Cond.instanceMethod z).before a0 Z = true) (hy : owner ≠ "java/lang/invoke/MethodHandle" ∧ owner ≠ "java/lang/invoke/VarHandle")
    {W kc ks : Nat} {as : Array Value} {QQ : Option Value → Heap → List Loc → Prop} (K : Pay l R p e below s args z W as h kc ks QQ) (eT : T.heap = h) {a : Addr} (E : Exa Z h a C) {g : JFrame} (hg : g.method = m) (hsize : g.locals.size = c.maxLocals) {argsL rest : List Value} (has : (.ref a :: argsL).toArray = as)
    (hlen : ∀ sig, parseMethodDescriptor y.desc = some sig → argsL.length = sig.parameters.length) (hstack : g.stack = argsL.reverse ++ .ref a :: rest) (hW : 2 * g.monitorRoom + (rest.map fun v => v.category).sum ≤ W) (hd : decode c.code g.pc = .ok (.invokevirtual index, 3)) (hc : cells + kc ≤ R.cells) (hs : slots + ks ≤ R.slots) :
    ∃ v T' L, Stand p l e R s m args below meth c T' (locs ++ L) (cells + kc) (slots + ks) ∧ QQ v T'.heap L ∧ ∀ u, Steps p.tables e below (T'.setTop { g with pc := g.pc + 3, stack := v.toList ++ rest }) u → Steps p.tables e below (T.setTop g) u := by
  obtain ⟨cB, kB, q1, q2, q3⟩ := isOf hZ eT E
  obtain ⟨v, _, ⟨T', L', k', n'⟩, -, X', ⟨L, hQ, l1, y1, z1⟩, st⟩ := X.virtualBackUp hx hown (mvT hZ w1) (mvT hZ w5) (mvT hZ w2) hy (mvT hZ w3) (mvT hZ w4) K q1 q3 hg hsize (Steps.refl _) hlen hstack hW hd (fun _ _ => ⟨has, eT, hc, hs⟩)
  try dsimp only [Pt.U, Pt.locs, Pt.cells, Pt.slots] at X' l1 y1 z1 st hQ
  subst l1 y1 z1
  exact ⟨v, T', L, X', hQ, fun u k => st.trans k⟩
/-- a private method by invokevirtual -/
theorem goP (X : Stand p l e R s m args below meth c T locs cells slots) (hx : p.tables.exec = Jvm.exec) (hZ : Z.Warmed39 s.vm) {own C : String} {index : Nat} {y : MethodName} {bytes : ByteArray} {maxL : Nat} {ret : Option FieldType} (hown : s.vm.findClass own = some m.cls)
    (w1 : (Jvm.Cond.methodLink own index y).before a0 Z = true) (w2 : (Jvm.Cond.instanceMethod y).before a0 Z = true) (w3 : (Jvm.Cond.selects y.cls y y).before a0 Z = true) (w5 : (Jvm.Cond.privateMethod y).before a0 Z = true) (w4 : (Jvm.Cond.code y bytes maxL ret).before a0 Z = true) (hy : y.cls ≠ "java/lang/invoke/MethodHandle" ∧ y.cls ≠ "java/lang/invoke/VarHandle")
    {W kc ks : Nat} {as : Array Value} {QQ : Option Value → Heap → List Loc → Prop} (K : Pay l R p e below s args y W as h kc ks QQ) (eT : T.heap = h) {a : Addr} (E : Exa Z h a C) {g : JFrame} (hg : g.method = m) (hsize : g.locals.size = c.maxLocals) {argsL rest : List Value} (has : (.ref a :: argsL).toArray = as)
    (hlen : ∀ sig, parseMethodDescriptor y.desc = some sig → argsL.length = sig.parameters.length) (hstack : g.stack = argsL.reverse ++ .ref a :: rest) (hW : 2 * g.monitorRoom + (rest.map fun v => v.category).sum ≤ W) (hd : decode c.code g.pc = .ok (.invokevirtual index, 3)) (hc : cells + kc ≤ R.cells) (hs : slots + ks ≤ R.slots) :
    ∃ v T' L, Stand p l e R s m args below meth c T' (locs ++ L) (cells + kc) (slots + ks) ∧ QQ v T'.heap L ∧ ∀ u, Steps p.tables e below (T'.setTop { g with pc := g.pc + 3, stack := v.toList ++ rest }) u → Steps p.tables e below (T.setTop g) u := by
  obtain ⟨cq, q1, q2⟩ := E.cell
  obtain ⟨v, _, ⟨T', L', k', n'⟩, -, X', ⟨L, hQ, l1, y1, z1⟩, st⟩ := X.privateBack hx hown (mvT hZ w1) (mvT hZ w2) (mvT hZ w3) (Cond.privateMethod_at (mvP hZ w5 (args := #[]))) (mvT hZ w4) hy K hg hsize (Steps.refl _) (by rw [eT]; exact q1) q2 hlen hstack hW hd (fun _ _ => ⟨has, eT, hc, hs⟩)
  try dsimp only [Pt.U, Pt.locs, Pt.cells, Pt.slots] at X' l1 y1 z1 st hQ
  subst l1 y1 z1
  exact ⟨v, T', L, X', hQ, fun u k => st.trans k⟩
theorem lremM {g : JFrame} {target : State} (X : Stand p l e R s m args below meth c T locs cells slots) (hx : p.tables.exec = Jvm.exec) (hg : g.method = m) {x y : Int64} {rest : List Value} (hd : decode c.code g.pc = .ok (.lrem, 1)) (hs : g.stack = .long y :: .long x :: rest) (hy : y ≠ 0)
    (hr : Steps p.tables e below (T.setTop { g with pc := g.pc + 1, stack := .long (x % y) :: rest }) target) : Steps p.tables e below (T.setTop g) target :=
  XS.lrem X.here hx hg hd hs hy (by rw [lrem_mod]; exact hr)
theorem own_narrow_ref {t : FieldType} {v : Value} (h : v.isRef = true) : narrow t v = v := by cases v <;> first | (simp [Value.isRef] at h; done) | (cases t <;> rfl)
theorem own_fits_ref {C : String} {v : Value} (h : v.isRef = true) : fits (.object C) v = true := by cases v <;> simp_all [Value.isRef, fits]
/-- what the case's words say of a static -/
theorem sta_obj {C n d K : String} (hi : (Jvm.Cond.initializedFor C n d).before args s = true ∨ ((Jvm.Cond.initialized C).before args s = true ∧ (Jvm.Cond.laysStatic C n d).before args s = true)) (hx : (Jvm.Cond.exactly (.static C n d) K).value args s none s [] = some true) :
    ∃ a, Sta s s.heap C n d (.ref a) ∧ Exa s s.heap a K ∧ (Term.static C n d).eval args s none [] s = some (.ref a) := by
  obtain ⟨a, e⟩ := exa_v hx
  exact ⟨a, Sta.start e hi, Exa.start e hx, e⟩
theorem fld_l {t : Term} {a : Addr} {C f d : String} {v : Int64} (ev : t.eval args s none [] s = some (.ref a)) (h : (Jvm.Cond.eq (.field t C f d) (.long v)).value args s none s [] = some true) : Fld s s.heap a C f d (.long v) :=
  Fld.start (by rw [← fld_at ev]; exact eqv_l (long_at v) h)
theorem fld_i {t : Term} {a : Addr} {C f d : String} {v : Int32} (ev : t.eval args s none [] s = some (.ref a)) (h : (Jvm.Cond.eq (.field t C f d) (.int v)).value args s none s [] = some true) : Fld s s.heap a C f d (.int v) :=
  Fld.start (by rw [← fld_at ev]; exact eqv_i (Term.int_eval v) h)
theorem b01_ne {P : Prop} [Decidable P] (q : P) : ¬ (if P then (1 : Int32) else 0) = 0 := by rw [if_pos q]; decide
theorem b01_eq {P : Prop} [Decidable P] (q : ¬ P) : (if P then (1 : Int32) else 0) = 0 := if_neg q
theorem b01_nar {P : Prop} [Decidable P] : narrow .boolean (.int (if P then (1 : Int32) else 0)) = .int (if P then (1 : Int32) else 0) := by split <;> rfl
end Base
end Jvm.Own
namespace Jvm.Own
open Jvm Jvm.ClassFile Sem Op Lib Jvm.Free Jvm.Stand Jvm.LawKit Jvm.RoadKit Bundle
section Wide
variable {p : Program} {l : Launch} {e : Env} {R : Room} {s : State} {m : MethodId} {args : Array Value} {below : List Frame} {meth : Method} {c : Code} {T : State} {locs : List Loc} {cells slots : Nat} {Z : State} {a0 : Array Value} {h h0 : Heap} {EL : List (String × Nat)} {vm0 : Vm} {k0 : Nat}
/-- the end of a walk that may intern -/
def QW (Z : State) (EL : List (String × Nat)) (s : State) (rm : Room) (Q : Option Value → Heap → List Loc → Prop) (o : Outcome) (U' : State) : Prop := ∃ v L, o = .returned v ∧ Q v U'.heap L ∧ CHr Z EL s.vm s.heap U'.vm U'.heap ∧ ReturnedEndW s o U' L rm.cells rm.slots
abbrev CW (l : Launch) (Z : State) (EL : List (String × Nat)) (y : MethodName) (ws : List Jvm.Cond) (rm : Room) (as : Array Value) (h0 : Heap) (Q : Option Value → Heap → List Loc → Prop) : Prop :=
  MetFree l y (head1 ws rm) (fun a U => a = as ∧ Z.Warmed39 U.vm ∧ U.heap = h0 ∧ CHv Z EL U.vm h0) (fun _ _ _ _ _ => True) (fun _ U o U' => ∃ v L, o = .returned v ∧ Q v U'.heap L ∧ CHr Z EL U.vm U.heap U'.vm U'.heap ∧ ReturnedEndW U o U' L rm.cells rm.slots)
theorem CW.of {y : MethodName} {bytes : ByteArray} {maxL : Nat} {ret : Option FieldType} {ws : List Jvm.Cond} {rm : Room} {as : Array Value} {Q : Option Value → Heap → List Loc → Prop} {L0 : Array Slot}
    (hp : plainFor y = true) (ef : ∀ m, entryFrame m as maxL = mkF m 0 L0 [])
    (body : ∀ (p : Program) (e : Env) (s : State) (m : MethodId) (below : List Frame) (meth : Method) (c : Code) (s₁ : State), p.tables.exec = Jvm.exec → c.code = bytes → c.maxLocals = maxL → meth.sig.returnType = ret → meth.locks = false → Z.Warmed39 s.vm → s.vm.findClass y.cls = some m.cls → meth.name = y.name → Stand p l e rm (s.setVm s.vm) m as below meth c s₁ [] 0 0 → s₁.heap = h0 → s.Since s.vm h0.size → h0.size ≤ h0.size → CHv Z EL s.vm h0 → s.heap = h0 → Go p e below (QW Z EL s rm Q) (s₁.setTop (mkF m 0 L0 []))) :
    CW l Z EL y (Jvm.Cond.code y bytes maxL ret :: ws) rm as h0 Q := by
  refine MetFree.of_bodySF hp hisR ?_
  intro p e s m args below meth c s₁ Bd hml0 hP hK
  obtain ⟨rfl, hZ, hh, hC⟩ := hP
  have q := body p e s m below meth c s₁ Bd.exec Bd.bytes hml0 Bd.returns Bd.notSynchronized hZ (findClass_of_methodNamed Bd.named) (name_of_methodNamed Bd.named Bd.method).1 (Stand.of_body Bd) (by rw [← hh, Bd.state]; rfl) (State.WarmedH.since (State.WarmedH.refl s) _) (Nat.le_refl _) hC hh
  rw [← ef m] at q
  exact q
theorem Go.retW {Q : Option Value → Heap → List Loc → Prop} {rm : Room} {t : State} (X : Stand p l e R (s.setVm vm0) m args below meth c T locs cells slots) (eT : T.heap = h) (hS : s.Since vm0 k0) (hk : k0 ≤ h.size) (hZ : Z.Warmed39 vm0) (hEL : EW Z a0 EL) (hh0 : s.heap = h0) (HC : CHr Z EL s.vm h0 vm0 h) (hlk : meth.locks = false) (v : Option Value) (hv : meth.sig.returnType = none → v = none) (hc : cells ≤ rm.cells) (hs : slots ≤ rm.slots) (q : Q v T.heap locs)
    (st : ∀ fs, (∀ (f : JFrame) (acts : List Action), f.method = m → f.locked = none → f.entered = [] → (doReturn e (T.setTop f) acts v).1 = T.setFrames fs) → Steps p.tables e below t (T.setFrames fs)) : Go p e below (QW Z EL s rm Q) t := by
  subst eT hh0
  obtain ⟨fs, hr, hrun, hended, hR⟩ := X.leaveW hS hk (v := v) hv hlk
  have q2 : CHr Z EL vm0 T.heap T.vm T.heap := CHv.at X hZ hEL HC.1
  exact ⟨_, _, st fs hr, hrun, hended, v, locs, rfl, q, HC.trans q2, hR.1, hR.2.1, hR.2.2.1, hR.2.2.2.mono hc hs⟩
theorem Go.retVW {Q : Option Value → Heap → List Loc → Prop} {rm : Room} (X : Stand p l e R (s.setVm vm0) m args below meth c T locs cells slots) (eT : T.heap = h) (hS : s.Since vm0 k0) (hk : k0 ≤ h.size) (hZ : Z.Warmed39 vm0) (hEL : EW Z a0 EL) (hh0 : s.heap = h0) (HC : CHr Z EL s.vm h0 vm0 h) (hx : p.tables.exec = Jvm.exec) (hlk : meth.locks = false) {pc : Nat} {Ls : Array Slot} {w : Value} {t : FieldType} {i : Instr} {rest : List Value} (hret : meth.sig.returnType = some t) (hn : narrow t w = w)
    (hi : (i = .ireturn ∧ (t = .int ∨ t = .boolean ∨ t = .byte ∨ t = .char ∨ t = .short) ∧ ∃ z, w = .int z) ∨ (i = .lreturn ∧ t = .long ∧ ∃ z, w = .long z) ∨ (i = .dreturn ∧ t = .double ∧ ∃ z, w = .double z) ∨ (i = .freturn ∧ t = .float ∧ ∃ z, w = .float z) ∨ (i = .areturn ∧ t.isReference = true ∧ w.isRef = true))
    (hd : decode c.code pc = .ok (i, 1)) (hc : cells ≤ rm.cells) (hs : slots ≤ rm.slots) (q : Q (some w) T.heap locs) : Go p e below (QW Z EL s rm Q) (T.setTop (mkF m pc Ls (w :: rest))) :=
  Go.retW X eT hS hk hZ hEL hh0 HC hlk (some w) (fun h => by rw [hret] at h; cases h) hc hs q fun fs hr => retOut X hx hret hn hi hd hr
theorem Go.ret0W {Q : Option Value → Heap → List Loc → Prop} {rm : Room} (X : Stand p l e R (s.setVm vm0) m args below meth c T locs cells slots) (eT : T.heap = h) (hS : s.Since vm0 k0) (hk : k0 ≤ h.size) (hZ : Z.Warmed39 vm0) (hEL : EW Z a0 EL) (hh0 : s.heap = h0) (HC : CHr Z EL s.vm h0 vm0 h) (hx : p.tables.exec = Jvm.exec) (hlk : meth.locks = false) {pc : Nat} {Ls : Array Slot} (hret : meth.sig.returnType = none)
    (hd : decode c.code pc = .ok (.return_, 1)) (hc : cells ≤ rm.cells) (hs : slots ≤ rm.slots) (q : Q none T.heap locs) : Go p e below (QW Z EL s rm Q) (T.setTop (mkF m pc Ls [])) :=
  Go.retW X eT hS hk hZ hEL hh0 HC hlk none (fun _ => rfl) hc hs q fun fs hr => X.returnOut hx hret hd hr
/-- a String whose value isn't set yet is no booked one -/
theorem own_safe_null {x : Addr} {k : Nat} {vm : Vm} (hal : Z.vm.Alike vm) (E : Exa Z h x "java/lang/String") (F : Fld Z h x "java/lang/String" "value" "[B" .null) (wi : (Jvm.Cond.instantiable "java/lang/String" k).before a0 Z = true) : Safe Z EL vm h x := fun B => by
  obtain ⟨p, -, u, a, -, q, -, G, rfl | rfl⟩ := B
  · obtain ⟨cell, cf, k1, i, f, e1, e2, e3, e4, e5, e6, e7⟩ := F
    cases (show h[q.sa]? = some q.sC from G.ha).symm.trans e1
    obtain ⟨cS, ⟨⟨s1, s2, s3, ⟨cv, kv, iv, s4, s4'⟩, ⟨cc, kc, ic, s5, s5'⟩, s6, s7, s8, s9, r⟩, hfS, hcS⟩, r2⟩ := G
    obtain ⟨kv', z4⟩ := ff_back (U := Wst Z vm h) hal s4
    have e8 := e2.symm.trans z4
    simp only [Option.some.injEq, Prod.mk.injEq] at e8
    rw [e8.2.2.2, s8] at e7
    cases e7
  · obtain ⟨cell, k1, e1, e2, e3, -, -⟩ := E
    cases (show h[q.sd]? = some q.SA from G.hd).symm.trans e1
    obtain ⟨cS, -, -, f, -⟩ := G
    have f : vm.findClass "[B" = some q.SA.cls := f
    rw [hal.findClass] at f
    obtain ⟨k2, q1, q2⟩ := Vm.findClass_spec f
    obtain ⟨k3, q3, q4⟩ := Vm.findClass_spec e2
    cases q1.symm.trans q3
    exact absurd (q2.symm.trans q4) (by decide)
abbrev PayW (l : Launch) (R : Room) (p : Program) (e : Env) (below : List Frame) (Z : State) (EL : List (String × Nat)) (s : State) (vm0 : Vm) (args : Array Value) (y : MethodName) (W : Nat) (as : Array Value) (h : Heap) (kc ks : Nat) (QQ : Option Value → Heap → List Loc → Prop) : Prop :=
  BackS l R p e below (s.setVm vm0) args y 3 W (fun P a => a = as ∧ P.U.heap = h ∧ P.cells + kc ≤ R.cells ∧ P.slots + ks ≤ R.slots) (fun P _ v B => ∃ L, QQ v B.U.heap L ∧ B.locs = P.locs ++ L ∧ B.cells = P.cells + kc ∧ B.slots = P.slots + ks ∧ CHr Z EL vm0 h B.U.vm B.U.heap)
/-- what stands behind a call that may intern -/
abbrev AftW (p : Program) (l : Launch) (e : Env) (R : Room) (s : State) (m : MethodId) (args : Array Value) (below : List Frame) (meth : Method) (c : Code) (T : State) (locs : List Loc) (cells slots : Nat) (Z : State) (EL : List (String × Nat)) (vm0 : Vm) (h : Heap) (own : String) (kc ks : Nat) (QQ : Option Value → Heap → List Loc → Prop) (g : JFrame) (rest : List Value) : Prop :=
  ∃ v T' L, Stand p l e R (s.setVm T'.vm) m args below meth c T' (locs ++ L) (cells + kc) (slots + ks) ∧ QQ v T'.heap L ∧ s.Since T'.vm T'.heap.size ∧ Z.Warmed39 T'.vm ∧ T'.vm.findClass own = some m.cls ∧ CHr Z EL vm0 h T'.vm T'.heap ∧ ∀ u, Steps p.tables e below (T'.setTop { g with pc := g.pc + 3, stack := v.toList ++ rest }) u → Steps p.tables e below (T.setTop g) u
theorem goSW (X : Stand p l e R (s.setVm vm0) m args below meth c T locs cells slots) (hx : p.tables.exec = Jvm.exec) (hZ : Z.Warmed39 vm0) {own : String} {index : Nat} {y : MethodName} {bytes : ByteArray} {maxL : Nat} {ret : Option FieldType} (hown : vm0.findClass own = some m.cls) (hS : s.Since vm0 k0) (hk : k0 ≤ h.size)
    (w1 : (Jvm.Cond.methodLink own index y).before a0 Z = true) (w2 : (Jvm.Cond.static y).before a0 Z = true) (w3 : (Jvm.Cond.initialized y.cls).before a0 Z = true) (w4 : (Jvm.Cond.code y bytes maxL ret).before a0 Z = true) (hy : y.cls ≠ "java/lang/invoke/MethodHandle" ∧ y.cls ≠ "java/lang/invoke/VarHandle")
    {W kc ks : Nat} {as : Array Value} {QQ : Option Value → Heap → List Loc → Prop} (K : PayW l R p e below Z EL s vm0 args y W as h kc ks QQ) (eT : T.heap = h) {g : JFrame} (hg : g.method = m) (hsize : g.locals.size = c.maxLocals) {argsL rest : List Value} (has : argsL.toArray = as)
    (hlen : ∀ sig, parseMethodDescriptor y.desc = some sig → argsL.length = sig.parameters.length) (hstack : g.stack = argsL.reverse ++ rest) (hW : 2 * g.monitorRoom + (rest.map fun v => v.category).sum ≤ W) (hd : decode c.code g.pc = .ok (.invokestatic index, 3)) (hc : cells + kc ≤ R.cells) (hs : slots + ks ≤ R.slots) :
    AftW p l e R s m args below meth c T locs cells slots Z EL vm0 h own kc ks QQ g rest := by
  subst eT
  obtain ⟨v, _, ⟨T', L', k', n'⟩, -, X', h2, gl, ⟨L, hQ, l1, y1, z1, hC⟩, st⟩ := callSS X hx hown (mvT (s := s.setVm vm0) hZ w1) (mvT (s := s.setVm vm0) hZ w2) (mvT (s := s.setVm vm0) hZ w3) (mvT (s := s.setVm vm0) hZ w4) hy K hg hsize hlen hstack hW hd (fun _ _ => ⟨has, rfl, hc, hs⟩)
  try dsimp only [Pt.U, Pt.locs, Pt.cells, Pt.slots] at X' l1 y1 z1 st hQ h2 gl hC
  subst l1 y1 z1
  obtain ⟨a1, a2, a3, a4⟩ := rebS hS hk X' h2 gl hZ hown
  exact ⟨v, T', L, a1, hQ, a2, a3, a4, hC, fun u k => st.trans k⟩
theorem goCW (X : Stand p l e R (s.setVm vm0) m args below meth c T locs cells slots) (hx : p.tables.exec = Jvm.exec) (hZ : Z.Warmed39 vm0) {own : String} {index : Nat} {y : MethodName} {bytes : ByteArray} {maxL : Nat} (hown : vm0.findClass own = some m.cls) (hS : s.Since vm0 k0) (hk : k0 ≤ h.size)
    (hy1 : y.name = "<init>") (w1 : (Jvm.Cond.methodLink own index y).before a0 Z = true) (w2 : (Jvm.Cond.instanceMethod y).before a0 Z = true) (w4 : (Jvm.Cond.code y bytes maxL none).before a0 Z = true) (hy : y.cls ≠ "java/lang/invoke/MethodHandle" ∧ y.cls ≠ "java/lang/invoke/VarHandle")
    {W kc ks : Nat} {as : Array Value} {QQ : Option Value → Heap → List Loc → Prop} (K : PayW l R p e below Z EL s vm0 args y W as h kc ks QQ) (eT : T.heap = h) {g : JFrame} (hg : g.method = m) (hsize : g.locals.size = c.maxLocals) {a : Addr} {argsL rest : List Value} (has : (.ref a :: argsL).toArray = as)
    (hlen : ∀ sig, parseMethodDescriptor y.desc = some sig → argsL.length = sig.parameters.length) (hstack : g.stack = argsL.reverse ++ .ref a :: rest) (hW : 2 * g.monitorRoom + (rest.map fun v => v.category).sum ≤ W) (hd : decode c.code g.pc = .ok (.invokespecial index, 3)) (hc : cells + kc ≤ R.cells) (hs : slots + ks ≤ R.slots) :
    AftW p l e R s m args below meth c T locs cells slots Z EL vm0 h own kc ks QQ g rest := by
  subst eT
  obtain ⟨v, _, ⟨T', L', k', n'⟩, -, X', h2, gl, ⟨L, hQ, l1, y1, z1, hC⟩, st⟩ := X.specialBackS hx hy1 hown (mvT (s := s.setVm vm0) hZ w1) (mvT (s := s.setVm vm0) hZ w2) (mvT (s := s.setVm vm0) hZ w4) hy K hg hsize (Steps.refl _) hlen hstack hW hd (fun _ _ => ⟨has, rfl, hc, hs⟩)
  try dsimp only [Pt.U, Pt.locs, Pt.cells, Pt.slots] at X' l1 y1 z1 st hQ h2 gl hC
  subst l1 y1 z1
  obtain ⟨a1, a2, a3, a4⟩ := rebS hS hk X' h2 gl hZ hown
  exact ⟨v, T', L, a1, hQ, a2, a3, a4, hC, fun u k => st.trans k⟩
theorem goVW (X : Stand p l e R (s.setVm vm0) m args below meth c T locs cells slots) (hx : p.tables.exec = Jvm.exec) (hZ : Z.Warmed39 vm0) {own C : String} {index : Nat} {y z : MethodName} (hown : vm0.findClass own = some m.cls) (hS : s.Since vm0 k0) (hk : k0 ≤ h.size)
    (w1 : (Jvm.Cond.methodLink own index y).before a0 Z = true) (w2 : (Jvm.Cond.declares y).before a0 Z = true) (hnf : NotFace (s.setVm vm0) y) (w3 : (Jvm.Cond.selects C y z).before a0 Z = true) (w4 : (Jvm.Cond.instanceMethod z).before a0 Z = true) (hy : y.cls ≠ "java/lang/invoke/MethodHandle" ∧ y.cls ≠ "java/lang/invoke/VarHandle")
    {W kc ks : Nat} {as : Array Value} {QQ : Option Value → Heap → List Loc → Prop} (K : PayW l R p e below Z EL s vm0 args z W as h kc ks QQ) (eT : T.heap = h) {a : Addr} (E : Exa Z h a C) {g : JFrame} (hg : g.method = m) (hsize : g.locals.size = c.maxLocals) {argsL rest : List Value} (has : (.ref a :: argsL).toArray = as)
    (hlen : ∀ sig, parseMethodDescriptor y.desc = some sig → argsL.length = sig.parameters.length) (hstack : g.stack = argsL.reverse ++ .ref a :: rest) (hW : 2 * g.monitorRoom + (rest.map fun v => v.category).sum ≤ W) (hd : decode c.code g.pc = .ok (.invokevirtual index, 3)) (hc : cells + kc ≤ R.cells) (hs : slots + ks ≤ R.slots) :
    AftW p l e R s m args below meth c T locs cells slots Z EL vm0 h own kc ks QQ g rest := by
  subst eT
  obtain ⟨cB, kB, q1, q2, q3⟩ := isOf (s := s.setVm vm0) hZ rfl E
  obtain ⟨v, _, ⟨T', L', k', n'⟩, -, X', h2, gl, ⟨L, hQ, l1, y1, z1, hC⟩, st⟩ := X.virtualBackS hx hown (mvT (s := s.setVm vm0) hZ w1) (mvT (s := s.setVm vm0) hZ w2) hnf (mvT (s := s.setVm vm0) hZ w3) (mvT (s := s.setVm vm0) hZ w4) hy K q1 q3 hg hsize (Steps.refl _) hlen hstack hW hd (fun _ _ => ⟨has, rfl, hc, hs⟩)
  try dsimp only [Pt.U, Pt.locs, Pt.cells, Pt.slots] at X' l1 y1 z1 st hQ h2 gl hC
  subst l1 y1 z1
  obtain ⟨a1, a2, a3, a4⟩ := rebS hS hk X' h2 gl hZ hown
  exact ⟨v, T', L, a1, hQ, a2, a3, a4, hC, fun u k => st.trans k⟩
end Wide
end Jvm.Own
namespace Jvm.Own
open Jvm Jvm.ClassFile Sem Op Lib Jvm.Free Jvm.Stand Jvm.LawKit Jvm.RoadKit Bundle
section Strs
variable {Z : State} {h h' : Heap} {x : Addr} {cs : List Int32} {B B' : Nat} {a : Addr} {sl : Nat} {v : Value} {ws : List Addr}
/-- at x stands a String of the chars cs (each 0 to 255), it and its array below B -/
def Str (Z : State) (B : Nat) (h : Heap) (x : Addr) (cs : List Int32) : Prop := ∃ (t : Addr) (kb : ClassId), x < B ∧ t < B ∧ Exa Z h x "java/lang/String" ∧ Fld Z h x "java/lang/String" "value" "[B" (.ref t) ∧ Fld Z h x "java/lang/String" "coder" "B" (.int 0) ∧ Arv Z h t kb .byte (Int32.ofNat cs.length) ((cs.map fun c => c.toInt8.toInt32).map Value.int) (.int 0) ∧ (∀ c ∈ cs, ¬ c < 0 ∧ ¬ (255 : Int32) < c) ∧ cs.length ≤ 4000
theorem Str.ext (F : Str Z B h x cs) (E : Ext h h') : Str Z B h' x cs := by
  obtain ⟨t, kb, h1, h2, a, b, c, d, r⟩ := F; exact ⟨t, kb, h1, h2, a.ext E, b.ext E, c.ext E, d.ext E, r⟩
theorem Str.wr (F : Str Z B h x cs) (W : Wr h h' a sl v) (q : B ≤ a) : Str Z B h' x cs := by
  obtain ⟨t, kb, h1, h2, a, b, c, d, r⟩ := F
  exact ⟨t, kb, h1, h2, a.wr W, b.other W (Or.inl (Nat.ne_of_lt (Nat.lt_of_lt_of_le h1 q))), c.other W (Or.inl (Nat.ne_of_lt (Nat.lt_of_lt_of_le h1 q))), d.other W (Nat.ne_of_lt (Nat.lt_of_lt_of_le h2 q)), r⟩
theorem Str.wrE {C : String} {k : Nat} {a0 : Array Value} (F : Str Z B h x cs) (W : Wr h h' a sl v) (E : Exa Z h a C) (hC : C ≠ "java/lang/String") (wi : (Jvm.Cond.instantiable C k).before a0 Z = true) : Str Z B h' x cs := by
  obtain ⟨t, kb, h1, h2, a, b, c, d, r⟩ := F
  have n1 := (ne_exa E a hC).symm
  exact ⟨t, kb, h1, h2, a.wr W, b.other W (Or.inl n1), c.other W (Or.inl n1), d.other W (Exa.neArv E d wi).symm, r⟩
theorem Str.keep (F : Str Z B h x cs) (K : Keep h h' ws) (q : ∀ w ∈ ws, B ≤ w) : Str Z B h' x cs := by
  obtain ⟨t, kb, h1, h2, a, b, c, d, r⟩ := F
  have n1 : x ∉ ws := fun z => absurd h1 (Nat.not_lt.mpr (q _ z))
  have n2 : t ∉ ws := fun z => absurd h2 (Nat.not_lt.mpr (q _ z))
  exact ⟨t, kb, h1, h2, a.keep K, b.keep K n1, c.keep K n1, d.keep K n2, r⟩
theorem Str.mono (F : Str Z B h x cs) (q : B ≤ B') : Str Z B' h x cs := by
  obtain ⟨t, kb, h1, h2, r⟩ := F; exact ⟨t, kb, Nat.lt_of_lt_of_le h1 q, Nat.lt_of_lt_of_le h2 q, r⟩
theorem Str.lt (F : Str Z B h x cs) : x < B := by obtain ⟨t, kb, h1, r⟩ := F; exact h1
theorem Str.exa (F : Str Z B h x cs) : Exa Z h x "java/lang/String" := by obtain ⟨t, kb, h1, h2, a, r⟩ := F; exact a
theorem Str.lat (F : Str Z B h x cs) : ∀ c ∈ cs, ¬ c < 0 ∧ ¬ (255 : Int32) < c := by obtain ⟨t, kb, h1, h2, a, b, c, d, r, -⟩ := F; exact r
theorem Str.le4 (F : Str Z B h x cs) : cs.length ≤ 4000 := by obtain ⟨t, kb, h1, h2, a, b, c, d, r, q⟩ := F; exact q
theorem up255 {cs : List Int32} (hp : ∀ c ∈ cs, ¬ c < 0 ∧ ¬ (255 : Int32) < c) : ∀ c ∈ cs, ¬ c < 0 ∧ ¬ (65535 : Int32) < c := fun c hc => ⟨(hp c hc).1, fun q => (hp c hc).2 (by
  rw [Int32.lt_iff_toInt_lt] at q ⊢
  have e1 : (65535 : Int32).toInt = 65535 := by decide
  have e2 : (255 : Int32).toInt = 255 := by decide
  omega)⟩
end Strs
end Jvm.Own
/- laws to paste: Road.backV, Road.lenW, Road.chN, Road.codOf (cut by pick.py; bodies as the Statement names them) -/
namespace Jvm.Pilot.@@N@@
namespace StrChars
open Jvm Sem ClassFile Op Lib Jvm.Stand Jvm.Free.XT Jvm.Free.ALB Jvm.Free.JM Jvm.Free
open Jvm.Lib.Cold (StaticIs)
/-- a char array whose places are chars -/
def Ch (a : Addr) (A : Cell) (U : State) : Prop := Arr .char a A U ∧ Typed .char A
theorem Ch.mv {a : Addr} {A : Cell} {U U' : State} (h : Ch a A U) (hal : U.vm.Alike U'.vm) (hh : U'.heap = U.heap) : Ch a A U' := ⟨h.1.mv hal hh, h.2⟩
theorem Ch.keep {a : Addr} {A : Cell} {U U' : State} (h : Ch a A U) (hal : U.vm.Alike U'.vm) (hk : U'.heap[a]? = some A) : Ch a A U' := ⟨h.1.keep hal hk, h.2⟩
/-- what place i of a char[]'s cell holds -/
def cv (A : Cell) (i : Nat) : Int32 := match A.slots[i]? with | some (.int x) => x | _ => 0
theorem Ch.get {a : Addr} {A : Cell} {U : State} (h : Ch a A U) {i : Nat} (hi : i < A.slots.size) : A.slots[i]? = some (.int (cv A i)) := by
  have e := Array.getElem?_eq_getElem hi
  have f := h.2 i _ e
  unfold cv; rw [e]
  generalize A.slots[i] = v at f
  cases v <;> simp [fits] at f ⊢
/-- the byte that i2b leaves of a char -/
def lo8 (x : Int32) : Int32 := x.toInt8.toInt32
theorem fits_lo8 (y : Int32) : fits .byte (.int (lo8 y)) = true := by
  have h1 := y.toInt8.le_toInt
  have h2 := y.toInt8.toInt_lt
  simp only [lo8, fits, Bool.and_eq_true, decide_eq_true_eq, Int32.le_iff_toInt_le, Int8.toInt_toInt32, show (-128 : Int32).toInt = -128 from by decide, show (127 : Int32).toInt = 127 from by decide]
  omega
/-- A' is A but that each place j of lo .. hi - 1 holds f j -/
def Laid (A A' : Cell) (lo hi : Nat) (f : Nat → Value) : Prop := A'.cls = A.cls ∧ A'.vm = A.vm ∧ A'.slots.size = A.slots.size ∧ ∀ i, A'.slots[i]? = if lo ≤ i ∧ i < hi then some (f i) else A.slots[i]?
theorem Laid.zero (A : Cell) (lo : Nat) (f : Nat → Value) : Laid A A lo (lo + 0) f := ⟨rfl, rfl, rfl, fun i => by rw [if_neg (by omega)]⟩
theorem Laid.step {A Ak : Cell} {lo k : Nat} {f : Nat → Value} {v : Value} (h : Laid A Ak lo k f) (hlo : lo ≤ k) (hk : k < Ak.slots.size) (hv : v = f k) : Laid A (Ak.setSlot k v) lo (k + 1) f := by
  refine ⟨h.1, h.2.1, by simpa [Cell.setSlot] using h.2.2.1, fun i => ?_⟩
  by_cases e : k = i
  · subst e; rw [Cell.slots_setSlot_self v hk, if_pos (by omega), hv]
  · rw [Cell.slots_setSlot_ne v e, h.2.2.2 i]
    by_cases q : lo ≤ i ∧ i < k
    · rw [if_pos q, if_pos (by omega)]
    · rw [if_neg q, if_neg (by omega)]
def U16 : String := "java/lang/StringUTF16"
namespace Cmp5
def yN : MethodName := ⟨"java/lang/StringUTF16", "compress", "([CI[BII)I"⟩
abbrev yB : ByteArray := jdk_52_method_21_code
theorem d0 : decode yB 0 = .ok (.iconst 0, 1) := by decide +kernel
theorem d1 : decode yB 1 = .ok (.istore 5, 2) := by decide +kernel
theorem d3 : decode yB 3 = .ok (.iload 5, 2) := by decide +kernel
theorem d5 : decode yB 5 = .ok (.iload 4, 2) := by decide +kernel
theorem d7 : decode yB 7 = .ok (.if_icmp (.ge) 37, 3) := by decide +kernel
theorem d10 : decode yB 10 = .ok (.aload_n 0, 1) := by decide +kernel
theorem d11 : decode yB 11 = .ok (.iload_n 1, 1) := by decide +kernel
theorem d12 : decode yB 12 = .ok (.caload, 1) := by decide +kernel
theorem d13 : decode yB 13 = .ok (.istore 6, 2) := by decide +kernel
theorem d15 : decode yB 15 = .ok (.iload 6, 2) := by decide +kernel
theorem d17 : decode yB 17 = .ok (.sipush 255, 3) := by decide +kernel
theorem d20 : decode yB 20 = .ok (.if_icmp (.le) 6, 3) := by decide +kernel
theorem d26 : decode yB 26 = .ok (.aload_n 2, 1) := by decide +kernel
theorem d27 : decode yB 27 = .ok (.iload_n 3, 1) := by decide +kernel
theorem d28 : decode yB 28 = .ok (.iload 6, 2) := by decide +kernel
theorem d30 : decode yB 30 = .ok (.i2b, 1) := by decide +kernel
theorem d31 : decode yB 31 = .ok (.bastore, 1) := by decide +kernel
theorem d32 : decode yB 32 = .ok (.iinc 1 1, 3) := by decide +kernel
theorem d35 : decode yB 35 = .ok (.iinc 3 1, 3) := by decide +kernel
theorem d38 : decode yB 38 = .ok (.iinc 5 1, 3) := by decide +kernel
theorem d41 : decode yB 41 = .ok (.goto (-38), 3) := by decide +kernel
theorem d44 : decode yB 44 = .ok (.iload 4, 2) := by decide +kernel
theorem d46 : decode yB 46 = .ok (.ireturn, 1) := by decide +kernel
def site : List Cond := []
def tab : Cond := tabOf yN yB 7 (some .int) site
def P (b : Addr) (A : Cell) (d : Addr) (B : Cell) (o q len : Nat) (args : Array Value) (s : State) : Prop := args = #[.ref b, .int (Int32.ofNat o), .ref d, .int (Int32.ofNat q), .int (Int32.ofNat len)] ∧ Ch b A s ∧ Arr .byte d B s ∧ b ≠ d ∧ o + len ≤ A.slots.size ∧ q + len ≤ B.slots.size ∧ ∀ i, i < len → ¬ 255 < cv A (o + i)
def E (b : Addr) (A : Cell) (d : Addr) (B : Cell) (o q len : Nat) (r : Option Value) (s u : State) : Prop := r = some (.int (Int32.ofNat len)) ∧ ∃ B', Put d B' s u ∧ Laid B B' q (q + len) (fun j => Value.int (lo8 (cv A (o + (j - q)))))
/-- no char of the range above 255: len; the places written hold each char's low byte -/
theorem law (l : Launch) (b : Addr) (A : Cell) (d : Addr) (B : Cell) (o q len : Nat) : Law l yN 5 5 0 0 yB 7 (some .int) site (P b A d B o q len) (E b A d B o q len) (copyLocs d q len) 0 0 := by
  refine Law.of_walk (plainFor_of_name (by decide +kernel)) (by decide +kernel) (by decide +kernel) (by decide) (fun _ _ h => by rw [h.1]; rfl) (fun _ U U' hal hh h => ⟨h.1, h.2.1.mv hal hh, h.2.2.1.mv hal hh, h.2.2.2⟩) (fun r U U' V V' h1 hal h2 h => ⟨h.1, h.2.elim fun B' q => ⟨B', q.1.mv h1 h2, q.2⟩⟩) ?_
  intro p e s m args below meth c s₁ X0 hexec hbytes hml hret hlk hnm hown hh0 W hP
  obtain ⟨rfl, hA, hB, hne, l1, l2, hp⟩ := hP
  have c1 : Steps p.tables e below (s₁.setTop (entryFrame m #[.ref b, .int (Int32.ofNat o), .ref d, .int (Int32.ofNat q), .int (Int32.ofNat len)] 7)) (s₁.setTop (mkF m 0 #[.val (.ref b), .val (.int (Int32.ofNat o)), .val (.ref d), .val (.int (Int32.ofNat q)), .val (.int (Int32.ofNat len)), .unset, .unset] [])) := entry rfl
  have hA0 := hA.1.mv X0.warmed.alike hh0
  have hB0 := hB.mv X0.warmed.alike hh0
  have a31 := hA.1.2.2.2
  have c2 : Steps p.tables e below (s₁.setTop (entryFrame m #[.ref b, .int (Int32.ofNat o), .ref d, .int (Int32.ofNat q), .int (Int32.ofNat len)] 7)) (s₁.setTop (mkF m 3 #[.val (.ref b), .val (.int (Int32.ofNat o)), .val (.ref d), .val (.int (Int32.ofNat q)), .val (.int (Int32.ofNat len)), .val (.int 0), .unset] [])) := c1.trans (by
    refine iconstV X0.here hexec rfl 0 (hb hbytes d0) (by decide) ?_
    refine XS.istore X0.here hexec rfl (hb hbytes d1) rfl rfl ?_
    exact Steps.refl _)
  have loop : ∀ (r i : Nat), i + r = len → ∀ (z : Slot), (z = .unset ∨ ∃ w, z = .val w ∧ w.category = 1) → ∀ (Tl : State) (Bk : Cell), Stand p l e { frames := 0, locals := 0, cells := 0, slots := 0 } s m #[.ref b, .int (Int32.ofNat o), .ref d, .int (Int32.ofNat q), .int (Int32.ofNat len)] below meth c Tl ([] ++ copyLocs d q i) 0 0 → Put d Bk s₁ Tl → Laid B Bk q (q + i) (fun j => Value.int (lo8 (cv A (o + (j - q))))) →
      Steps p.tables e below (s₁.setTop (entryFrame m #[.ref b, .int (Int32.ofNat o), .ref d, .int (Int32.ofNat q), .int (Int32.ofNat len)] 7)) (Tl.setTop (mkF m 3 #[.val (.ref b), .val (.int (Int32.ofNat (o + i))), .val (.ref d), .val (.int (Int32.ofNat (q + i))), .val (.int (Int32.ofNat len)), .val (.int (Int32.ofNat i)), z] [])) → ∃ (T' : State) (B' : Cell) (z' : Slot), Stand p l e { frames := 0, locals := 0, cells := 0, slots := 0 } s m #[.ref b, .int (Int32.ofNat o), .ref d, .int (Int32.ofNat q), .int (Int32.ofNat len)] below meth c T' ([] ++ copyLocs d q len) 0 0 ∧ Put d B' s₁ T' ∧ Laid B B' q (q + len) (fun j => Value.int (lo8 (cv A (o + (j - q))))) ∧
      Steps p.tables e below (s₁.setTop (entryFrame m #[.ref b, .int (Int32.ofNat o), .ref d, .int (Int32.ofNat q), .int (Int32.ofNat len)] 7)) (T'.setTop (mkF m 3 #[.val (.ref b), .val (.int (Int32.ofNat (o + len))), .val (.ref d), .val (.int (Int32.ofNat (q + len))), .val (.int (Int32.ofNat len)), .val (.int (Int32.ofNat len)), z'] [])) := by
    intro r
    induction r with
    | zero =>
      intro i hi z hz Tl Bk Xl pl fl cl
      have hil : i = len := by omega
      rw [hil] at Xl fl cl
      exact ⟨Tl, Bk, z, Xl, pl, fl, cl⟩
    | succ r ih =>
      intro i hi z hz Tl Bk Xl pl fl cl
      have all := X0.warmed.alike.symm.trans Xl.warmed.alike
      have hAl := hA0.keep all (pl.other hne hA0.1)
      have hBk := hB0.like all pl.1 fl.1 fl.2.1 fl.2.2.1
      have hlt : q + i < Bk.slots.size := by rw [fl.2.2.1]; omega
      have c3 : Steps p.tables e below (s₁.setTop (entryFrame m #[.ref b, .int (Int32.ofNat o), .ref d, .int (Int32.ofNat q), .int (Int32.ofNat len)] 7)) (Tl.setTop (mkF m 12 #[.val (.ref b), .val (.int (Int32.ofNat (o + i))), .val (.ref d), .val (.int (Int32.ofNat (q + i))), .val (.int (Int32.ofNat len)), .val (.int (Int32.ofNat i)), z] [.int (Int32.ofNat (o + i)), .ref b])) := cl.trans (by
        refine XS.iload Xl.here hexec rfl (hb hbytes d3) rfl ?_
        refine XS.iload Xl.here hexec rfl (hb hbytes d5) rfl ?_
        refine XS.icmpNo Xl.here hexec rfl (hb hbytes d7) rfl (ii_ge_f (lt32 (by omega) (by omega))) ?_
        refine XS.aloadN Xl.here hexec rfl (hb hbytes d10) rfl rfl ?_
        refine XS.iloadN Xl.here hexec rfl (hb hbytes d11) rfl ?_
        exact Steps.refl _)
      have c4 : Steps p.tables e below (s₁.setTop (entryFrame m #[.ref b, .int (Int32.ofNat o), .ref d, .int (Int32.ofNat q), .int (Int32.ofNat len)] 7)) (Tl.setTop (mkF m 13 #[.val (.ref b), .val (.int (Int32.ofNat (o + i))), .val (.ref d), .val (.int (Int32.ofNat (q + i))), .val (.int (Int32.ofNat len)), .val (.int (Int32.ofNat i)), z] [.int (cv A (o + i))])) := c3.trans (by
        refine Xl.aget hexec hAl rfl (hA.get (i := o + i) (by omega)) rfl rfl (hb hbytes d12) ?_
        exact Steps.refl _)
      have c5 : Steps p.tables e below (s₁.setTop (entryFrame m #[.ref b, .int (Int32.ofNat o), .ref d, .int (Int32.ofNat q), .int (Int32.ofNat len)] 7)) (Tl.setTop (mkF m 15 #[.val (.ref b), .val (.int (Int32.ofNat (o + i))), .val (.ref d), .val (.int (Int32.ofNat (q + i))), .val (.int (Int32.ofNat len)), .val (.int (Int32.ofNat i)), .val (.int (cv A (o + i)))] [])) := c4.trans (by
        refine XS.istoreS Xl.here hexec rfl (hb hbytes d13) rfl rfl hz ?_
        exact Steps.refl _)
      have c6 : Steps p.tables e below (s₁.setTop (entryFrame m #[.ref b, .int (Int32.ofNat o), .ref d, .int (Int32.ofNat q), .int (Int32.ofNat len)] 7)) (Tl.setTop (mkF m 31 #[.val (.ref b), .val (.int (Int32.ofNat (o + i))), .val (.ref d), .val (.int (Int32.ofNat (q + i))), .val (.int (Int32.ofNat len)), .val (.int (Int32.ofNat i)), .val (.int (cv A (o + i)))] [.int (lo8 (cv A (o + i))), .int (Int32.ofNat (q + i)), .ref d])) := c5.trans (by
        refine XS.iload Xl.here hexec rfl (hb hbytes d15) rfl ?_
        refine sipushV Xl.here hexec rfl 255 (hb hbytes d17) (by decide) ?_
        refine XS.icmpYes Xl.here hexec rfl (pc0 := 20) rfl (hb hbytes d20) rfl (ii_le_t (hp i (by omega))) (by decide) rfl ?_
        refine XS.aloadN Xl.here hexec rfl (hb hbytes d26) rfl rfl ?_
        refine XS.iloadN Xl.here hexec rfl (hb hbytes d27) rfl ?_
        refine XS.iload Xl.here hexec rfl (hb hbytes d28) rfl ?_
        refine i2b Xl.here hexec rfl (hb hbytes d30) rfl ?_
        exact Steps.refl _)
      obtain ⟨T7, X7, p7, st7⟩ := Xl.aput hexec hBk rfl hlt rfl (fits_lo8 (cv A (o + i))) (g := (mkF m 31 #[.val (.ref b), .val (.int (Int32.ofNat (o + i))), .val (.ref d), .val (.int (Int32.ofNat (q + i))), .val (.int (Int32.ofNat len)), .val (.int (Int32.ofNat i)), .val (.int (cv A (o + i)))] [.int (lo8 (cv A (o + i))), .int (Int32.ofNat (q + i)), .ref d])) rfl (rest := []) rfl (hb hbytes d31)
      have c8 : Steps p.tables e below (s₁.setTop (entryFrame m #[.ref b, .int (Int32.ofNat o), .ref d, .int (Int32.ofNat q), .int (Int32.ofNat len)] 7)) (T7.setTop (mkF m 32 #[.val (.ref b), .val (.int (Int32.ofNat (o + i))), .val (.ref d), .val (.int (Int32.ofNat (q + i))), .val (.int (Int32.ofNat len)), .val (.int (Int32.ofNat i)), .val (.int (cv A (o + i)))] [])) := c6.trans (st7 _ (Steps.refl _))
      have c9 : Steps p.tables e below (s₁.setTop (entryFrame m #[.ref b, .int (Int32.ofNat o), .ref d, .int (Int32.ofNat q), .int (Int32.ofNat len)] 7)) (T7.setTop (mkF m 3 #[.val (.ref b), .val (.int (Int32.ofNat (o + i) + 1)), .val (.ref d), .val (.int (Int32.ofNat (q + i) + 1)), .val (.int (Int32.ofNat len)), .val (.int (Int32.ofNat i + 1)), .val (.int (cv A (o + i)))] [])) := c8.trans (by
        refine iincV X7.here hexec rfl 1 (hb hbytes d32) (by decide) rfl rfl ?_
        refine iincV X7.here hexec rfl 1 (hb hbytes d35) (by decide) rfl rfl ?_
        refine iincV X7.here hexec rfl 1 (hb hbytes d38) (by decide) rfl rfl ?_
        refine XS.goto X7.here hexec rfl (pc0 := 41) rfl (hb hbytes d41) (by decide) rfl ?_
        exact Steps.refl _)
      have c10 : Steps p.tables e below (s₁.setTop (entryFrame m #[.ref b, .int (Int32.ofNat o), .ref d, .int (Int32.ofNat q), .int (Int32.ofNat len)] 7)) (T7.setTop (mkF m 3 #[.val (.ref b), .val (.int (Int32.ofNat (o + (i + 1)))), .val (.ref d), .val (.int (Int32.ofNat (q + (i + 1)))), .val (.int (Int32.ofNat len)), .val (.int (Int32.ofNat (i + 1))), .val (.int (cv A (o + i)))] [])) := by
        have := c9
        rw [succ32, succ32, succ32] at this
        exact this
      exact ih (i + 1) (by omega) _ (Or.inr ⟨_, rfl, rfl⟩) T7 _ (by rw [copyLocs_step, ← List.append_assoc]; exact X7) (pl.trans p7) (fl.step (by omega) hlt (by simp)) c10
  obtain ⟨T9, B9, z9, X9, p9, f9, g9⟩ := loop len 0 (by omega) .unset (Or.inl rfl) s₁ B (by simpa [copyLocs] using X0) ⟨hB0.1, fun _ _ => rfl, rfl⟩ (Laid.zero _ _ _) c2
  have c11 : Steps p.tables e below (s₁.setTop (entryFrame m #[.ref b, .int (Int32.ofNat o), .ref d, .int (Int32.ofNat q), .int (Int32.ofNat len)] 7)) (T9.setTop (mkF m 46 #[.val (.ref b), .val (.int (Int32.ofNat (o + len))), .val (.ref d), .val (.int (Int32.ofNat (q + len))), .val (.int (Int32.ofNat len)), .val (.int (Int32.ofNat len)), z9] [.int (Int32.ofNat len)])) := g9.trans (by
    refine XS.iload X9.here hexec rfl (hb hbytes d3) rfl ?_
    refine XS.iload X9.here hexec rfl (hb hbytes d5) rfl ?_
    refine XS.icmpYes X9.here hexec rfl (pc0 := 7) rfl (hb hbytes d7) rfl (ii_ge_t (nlt32 (by omega) (Nat.le_refl _))) (by decide) rfl ?_
    refine XS.iload X9.here hexec rfl (hb hbytes d44) rfl ?_
    exact Steps.refl _)
  exact ⟨T9, some (.int (Int32.ofNat len)), _, _, _, X9, by simp, rfl, rfl, (fun h => by cases h), ⟨rfl, B9, p9.from hh0, f9⟩, fun fs hl => c11.trans (X9.ireturnOut hexec hret rfl (Or.inl rfl) (hb hbytes d46) hl)⟩
end Cmp5
namespace Cmp3
def yN : MethodName := ⟨"java/lang/StringUTF16", "compress", "([CII)[B"⟩
abbrev yB : ByteArray := jdk_52_method_16_code
theorem d0 : decode yB 0 = .ok (.iload_n 2, 1) := by decide +kernel
theorem d1 : decode yB 1 = .ok (.newarray .byte, 2) := by decide +kernel
theorem d3 : decode yB 3 = .ok (.astore_n 3, 1) := by decide +kernel
theorem d4 : decode yB 4 = .ok (.aload_n 0, 1) := by decide +kernel
theorem d5 : decode yB 5 = .ok (.iload_n 1, 1) := by decide +kernel
theorem d6 : decode yB 6 = .ok (.aload_n 3, 1) := by decide +kernel
theorem d7 : decode yB 7 = .ok (.iconst 0, 1) := by decide +kernel
theorem d8 : decode yB 8 = .ok (.iload_n 2, 1) := by decide +kernel
theorem d9 : decode yB 9 = .ok (.invokestatic 115, 3) := by decide +kernel
theorem d12 : decode yB 12 = .ok (.istore 4, 2) := by decide +kernel
theorem d14 : decode yB 14 = .ok (.iload 4, 2) := by decide +kernel
theorem d16 : decode yB 16 = .ok (.iload_n 2, 1) := by decide +kernel
theorem d17 : decode yB 17 = .ok (.if_icmp (.eq) 40, 3) := by decide +kernel
theorem d57 : decode yB 57 = .ok (.aload_n 3, 1) := by decide +kernel
theorem d58 : decode yB 58 = .ok (.areturn, 1) := by decide +kernel
def site : List Cond := [.arrayClass .byte, Cmp5.tab] ++ staticW U16 115 Cmp5.yN
def tab : Cond := tabOf yN yB 6 (some (.array .byte)) site
def P (b : Addr) (A : Cell) (o len : Nat) (args : Array Value) (s : State) : Prop := args = #[.ref b, .int (Int32.ofNat o), .int (Int32.ofNat len)] ∧ Ch b A s ∧ o + len ≤ A.slots.size ∧ len ≤ 536870912 ∧ ∀ i, i < len → ¬ 255 < cv A (o + i)
def E (b : Addr) (A : Cell) (o len : Nat) (r : Option Value) (s u : State) : Prop := NewArr .byte "[B" len (fun j => .int (lo8 (cv A (o + j)))) r s u ∧ u.heap.size = s.heap.size + 1
/-- no char of the range above 255: a new byte[] of their low bytes -/
theorem law (l : Launch) (b : Addr) (A : Cell) (o len : Nat) : Law l yN 3 3 1 18 yB 6 (some (.array .byte)) site (P b A o len) (E b A o len) [] 1 len := by
  refine Law.of_walk (plainFor_of_name (by decide +kernel)) (by decide +kernel) (by decide +kernel) (by decide) (fun _ _ h => by rw [h.1]; rfl) (fun _ U U' hal hh h => ⟨h.1, h.2.1.mv hal hh, h.2.2⟩) (fun r U U' V V' h1 hal h2 h => ⟨NewArr.mv r U U' V V' h1 hal h2 h.1, by rw [h1, h2]; exact h.2⟩) ?_
  intro p e s m args below meth c s₁ X0 hexec hbytes hml hret hlk hnm hown hh0 W hP
  obtain ⟨rfl, hA, l1, l2, hp⟩ := hP
  have a31 := hA.1.2.2.2
  have c1 : Steps p.tables e below (s₁.setTop (entryFrame m #[.ref b, .int (Int32.ofNat o), .int (Int32.ofNat len)] 6)) (s₁.setTop (mkF m 0 #[.val (.ref b), .val (.int (Int32.ofNat o)), .val (.int (Int32.ofNat len)), .unset, .unset, .unset] [])) := entry rfl
  have c2 : Steps p.tables e below (s₁.setTop (entryFrame m #[.ref b, .int (Int32.ofNat o), .int (Int32.ofNat len)] 6)) (s₁.setTop (mkF m 1 #[.val (.ref b), .val (.int (Int32.ofNat o)), .val (.int (Int32.ofNat len)), .unset, .unset, .unset] [.int (Int32.ofNat len)])) := c1.trans (by
    refine XS.iloadN X0.here hexec rfl (hb hbytes d0) rfl ?_
    exact Steps.refl _)
  obtain ⟨T3, B3, X3, ba3, bs3, bv3, bh3, bf3, st3⟩ := X0.anew hexec (atype := .byte) (wk W (.arrayClass .byte)) rfl (by show len * 1 ≤ _; omega) (by omega) (g := (mkF m 1 #[.val (.ref b), .val (.int (Int32.ofNat o)), .val (.int (Int32.ofNat len)), .unset, .unset, .unset] [.int (Int32.ofNat len)])) rfl (hb hbytes d1) (rest := []) rfl (Nat.le_refl _) (by show 0 + len ≤ len; omega)
  rw [hh0] at ba3 st3
  have kp3 : XT.Kept s T3 := (XT.Kept.of_eq hh0).push bh3
  have hA3 := hA.keep X3.warmed.alike (kp3 _ _ hA.1.1)
  have hne : b ≠ s.heap.size := hA.1.ne
  have c4 : Steps p.tables e below (s₁.setTop (entryFrame m #[.ref b, .int (Int32.ofNat o), .int (Int32.ofNat len)] 6)) (T3.setTop (mkF m 3 #[.val (.ref b), .val (.int (Int32.ofNat o)), .val (.int (Int32.ofNat len)), .unset, .unset, .unset] [.ref s.heap.size])) := c2.trans (st3 _ (Steps.refl _))
  have c5 : Steps p.tables e below (s₁.setTop (entryFrame m #[.ref b, .int (Int32.ofNat o), .int (Int32.ofNat len)] 6)) (T3.setTop (mkF m 9 #[.val (.ref b), .val (.int (Int32.ofNat o)), .val (.int (Int32.ofNat len)), .val (.ref s.heap.size), .unset, .unset] [.int (Int32.ofNat len), .int 0, .ref s.heap.size, .int (Int32.ofNat o), .ref b])) := c4.trans (by
    refine XS.astoreN X3.here hexec rfl (hb hbytes d3) rfl rfl rfl ?_
    refine XS.aloadN X3.here hexec rfl (hb hbytes d4) rfl rfl ?_
    refine XS.iloadN X3.here hexec rfl (hb hbytes d5) rfl ?_
    refine XS.aloadN X3.here hexec rfl (hb hbytes d6) rfl rfl ?_
    refine iconstV X3.here hexec rfl 0 (hb hbytes d7) (by decide) ?_
    refine XS.iloadN X3.here hexec rfl (hb hbytes d8) rfl ?_
    exact Steps.refl _)
  obtain ⟨v6, T6, X6, E6, g6⟩ := X3.callS hexec (Cmp5.law l b A s.heap.size B3 o 0 len) hown (wks W (staticW U16 115 Cmp5.yN)) (wk W Cmp5.tab) (W := 0) (Nat.le_of_ble_eq_true rfl) (Nat.le_of_ble_eq_true rfl) (Nat.le_refl _) (by show 0 + len + 0 ≤ len; omega) (g := (mkF m 9 #[.val (.ref b), .val (.int (Int32.ofNat o)), .val (.int (Int32.ofNat len)), .val (.ref s.heap.size), .unset, .unset] [.int (Int32.ofNat len), .int (Int32.ofNat 0), .ref s.heap.size, .int (Int32.ofNat o), .ref b])) rfl (by rw [hml]; rfl) c5 (argsL := [.ref b, .int (Int32.ofNat o), .ref s.heap.size, .int (Int32.ofNat 0), .int (Int32.ofNat len)]) (rest := []) rfl rfl (by show 2 * 0 + 0 ≤ _; decide) (hb hbytes d9) (⟨rfl, hA3, ba3, hne, l1, by rw [bs3]; simp, hp⟩)
  obtain ⟨rfl, B6, p6, f6⟩ := E6
  have c7 : Steps p.tables e below (s₁.setTop (entryFrame m #[.ref b, .int (Int32.ofNat o), .int (Int32.ofNat len)] 6)) (T6.setTop (mkF m 12 #[.val (.ref b), .val (.int (Int32.ofNat o)), .val (.int (Int32.ofNat len)), .val (.ref s.heap.size), .unset, .unset] [.int (Int32.ofNat len)])) := g6
  have c8 : Steps p.tables e below (s₁.setTop (entryFrame m #[.ref b, .int (Int32.ofNat o), .int (Int32.ofNat len)] 6)) (T6.setTop (mkF m 58 #[.val (.ref b), .val (.int (Int32.ofNat o)), .val (.int (Int32.ofNat len)), .val (.ref s.heap.size), .val (.int (Int32.ofNat len)), .unset] [.ref s.heap.size])) := c7.trans (by
    refine XS.istore X6.here hexec rfl (hb hbytes d12) rfl rfl ?_
    refine XS.iload X6.here hexec rfl (hb hbytes d14) rfl ?_
    refine XS.iloadN X6.here hexec rfl (hb hbytes d16) rfl ?_
    refine XS.icmpYes X6.here hexec rfl (pc0 := 17) rfl (hb hbytes d17) rfl (ii_eq_t rfl) (by decide) rfl ?_
    refine XS.aloadN X6.here hexec rfl (hb hbytes d57) rfl rfl ?_
    exact Steps.refl _)
  have X8 := X6.wide (L' := []) (cells' := 1) (slots' := len) (fun x hx hlt => by
    simp only [List.nil_append, copyLocs, List.mem_map, List.mem_range] at hx
    obtain ⟨i, -, rfl⟩ := hx
    exact absurd hlt (Nat.lt_irrefl _)) (Nat.le_refl _) (by omega)
  exact ⟨T6, some (.ref s.heap.size), _, _, _, X8, rfl, rfl, rfl, (fun h => by cases h), ⟨⟨rfl, B6, ba3.like (X3.warmed.alike.symm.trans X6.warmed.alike) p6.1 f6.1 f6.2.1 f6.2.2.1, f6.2.1.trans bv3, by rw [X6.warmed.alike.findClass, f6.1]; exact bf3, by rw [f6.2.2.1, bs3]; simp, fun j hj => by rw [f6.2.2.2 j, if_pos (by omega)]; rfl, kp3.put p6 (Nat.le_refl _)⟩, by rw [p6.2.2, bh3, hh0]; simp⟩, fun fs hl => c8.trans (X8.areturnOut hexec rfl hret rfl (hb hbytes d58) hl)⟩
end Cmp3
namespace CodL
def yN : MethodName := ⟨"java/lang/StringUTF16", "coderFromArrayLen", "([BI)B"⟩
abbrev yB : ByteArray := jdk_52_method_15_code
theorem d0 : decode yB 0 = .ok (.iload_n 1, 1) := by decide +kernel
theorem d1 : decode yB 1 = .ok (.aload_n 0, 1) := by decide +kernel
theorem d2 : decode yB 2 = .ok (.arraylength, 1) := by decide +kernel
theorem d3 : decode yB 3 = .ok (.isub, 1) := by decide +kernel
theorem d4 : decode yB 4 = .ok (.bipush 31, 2) := by decide +kernel
theorem d6 : decode yB 6 = .ok (.iushr, 1) := by decide +kernel
theorem d7 : decode yB 7 = .ok (.i2b, 1) := by decide +kernel
theorem d8 : decode yB 8 = .ok (.ireturn, 1) := by decide +kernel
def site : List Cond := []
def tab : Cond := tabOf yN yB 2 (some .byte) site
def P (d : Addr) (B : Cell) (args : Array Value) (s : State) : Prop := args = #[.ref d, .int (Int32.ofNat B.slots.size)] ∧ Arr .byte d B s
def E (r : Option Value) (s u : State) : Prop := XT.PureE (some (.int 0)) r s u
/-- an array as long as the number of chars: LATIN1 -/
theorem law (l : Launch) (d : Addr) (B : Cell) : Law l yN 2 2 0 0 yB 2 (some .byte) site (P d B) E [] 0 0 := by
  refine Law.of_walk (plainFor_of_name (by decide +kernel)) (by decide +kernel) (by decide +kernel) (by decide) (fun _ _ h => by rw [h.1]; rfl) (fun _ U U' hal hh h => ⟨h.1, h.2.mv hal hh⟩) (fun r U U' V V' h1 hal h2 h => XT.PureE.mv r U U' V V' h1 hal h2 h) ?_
  intro p e s m args below meth c s₁ X0 hexec hbytes hml hret hlk hnm hown hh0 W hP
  obtain ⟨rfl, hB⟩ := hP
  have hB0 := hB.mv X0.warmed.alike hh0
  have c1 : Steps p.tables e below (s₁.setTop (entryFrame m #[.ref d, .int (Int32.ofNat B.slots.size)] 2)) (s₁.setTop (mkF m 0 #[.val (.ref d), .val (.int (Int32.ofNat B.slots.size))] [])) := entry rfl
  have c2 : Steps p.tables e below (s₁.setTop (entryFrame m #[.ref d, .int (Int32.ofNat B.slots.size)] 2)) (s₁.setTop (mkF m 2 #[.val (.ref d), .val (.int (Int32.ofNat B.slots.size))] [.ref d, .int (Int32.ofNat B.slots.size)])) := c1.trans (by
    refine XS.iloadN X0.here hexec rfl (hb hbytes d0) rfl ?_
    refine XS.aloadN X0.here hexec rfl (hb hbytes d1) rfl rfl ?_
    exact Steps.refl _)
  have c3 : Steps p.tables e below (s₁.setTop (entryFrame m #[.ref d, .int (Int32.ofNat B.slots.size)] 2)) (s₁.setTop (mkF m 8 #[.val (.ref d), .val (.int (Int32.ofNat B.slots.size))] [.int (lo8 (ushr (Int32.ofNat B.slots.size - Int32.ofNat B.slots.size) 31))])) := c2.trans (by
    refine X0.alen hexec hB0 rfl rfl (hb hbytes d2) ?_
    refine XS.isub X0.here hexec rfl (hb hbytes d3) rfl ?_
    refine bipushV X0.here hexec rfl 31 (hb hbytes d4) (by decide) ?_
    refine iushr X0.here hexec rfl (hb hbytes d6) rfl ?_
    refine i2b X0.here hexec rfl (hb hbytes d7) rfl ?_
    exact Steps.refl _)
  have e0 : lo8 (ushr (Int32.ofNat B.slots.size - Int32.ofNat B.slots.size) 31) = 0 := by rw [Int32.sub_self]; decide
  rw [e0] at c3
  exact ⟨s₁, some (.int 0), _, _, _, X0, rfl, rfl, rfl, (fun h => by cases h), ⟨rfl, hh0⟩, fun fs hl => c3.trans (X0.ireturnOut hexec hret rfl (Or.inr (Or.inr (Or.inl rfl))) (hb hbytes d8) hl)⟩
end CodL
/-- the String at a is Latin-1 over a new byte[] (the heap's one new cell): the low bytes of the len chars of A from o on; every cell but a is kept -/
def Got (a : Addr) (D : Cell) (fV fC : Field) (A : Cell) (o len : Nat) (r : Option Value) (s u : State) : Prop := r = none ∧ ∃ D' V : Cell, Blank "java/lang/String" a D' u ∧ Same D D' [fV.slot, fC.slot] ∧ D'.slots[fV.slot]? = some (.ref s.heap.size) ∧ D'.slots[fC.slot]? = some (.int 0) ∧ Arr .byte s.heap.size V u ∧ V.vm = .none ∧ u.vm.findClass "[B" = some V.cls ∧ V.slots.size = len ∧ (∀ j, j < len → V.slots[j]? = some (.int (lo8 (cv A (o + j))))) ∧ (∀ (y : Addr) (c : Cell), y ≠ a → s.heap[y]? = some c → u.heap[y]? = some c) ∧ u.heap.size = s.heap.size + 1
theorem Got.mv {a : Addr} {D A : Cell} {fV fC : Field} {o len : Nat} : ∀ r (U U' V V' : State), U'.heap = U.heap → V.vm.Alike V'.vm → V'.heap = V.heap → Got a D fV fC A o len r U V → Got a D fV fC A o len r U' V' :=
  fun r U U' V V' h1 hal h2 ⟨e0, D', X, a1, a2, a3, a4, a5, a6, a7, a8, a9, a10, a11⟩ => ⟨e0, D', X, a1.mv hal h2, a2, by rw [h1]; exact a3, a4, by rw [h1]; exact a5.mv hal h2, a6, by rw [hal.findClass]; exact a7, a8, a9, by rw [h1, h2]; exact a10, by rw [h1, h2]; exact a11⟩
namespace New4
def yN : MethodName := ⟨"java/lang/String", "<init>", "([CIILjava/lang/Void;)V"⟩
abbrev yB : ByteArray := jdk_42_method_149_code
theorem d0 : decode yB 0 = .ok (.aload_n 0, 1) := by decide +kernel
theorem d1 : decode yB 1 = .ok (.invokespecial 1, 3) := by decide +kernel
theorem d4 : decode yB 4 = .ok (.iload_n 3, 1) := by decide +kernel
theorem d5 : decode yB 5 = .ok (.ifCond (.ne) 22, 3) := by decide +kernel
theorem d27 : decode yB 27 = .ok (.getstatic 38, 3) := by decide +kernel
theorem d30 : decode yB 30 = .ok (.ifCond (.eq) 28, 3) := by decide +kernel
theorem d33 : decode yB 33 = .ok (.aload_n 1, 1) := by decide +kernel
theorem d34 : decode yB 34 = .ok (.iload_n 2, 1) := by decide +kernel
theorem d35 : decode yB 35 = .ok (.iload_n 3, 1) := by decide +kernel
theorem d36 : decode yB 36 = .ok (.invokestatic 177, 3) := by decide +kernel
theorem d39 : decode yB 39 = .ok (.astore 5, 2) := by decide +kernel
theorem d41 : decode yB 41 = .ok (.aload_n 0, 1) := by decide +kernel
theorem d42 : decode yB 42 = .ok (.aload 5, 2) := by decide +kernel
theorem d44 : decode yB 44 = .ok (.iload_n 3, 1) := by decide +kernel
theorem d45 : decode yB 45 = .ok (.invokestatic 47, 3) := by decide +kernel
theorem d48 : decode yB 48 = .ok (.putfield 15, 3) := by decide +kernel
theorem d51 : decode yB 51 = .ok (.aload_n 0, 1) := by decide +kernel
theorem d52 : decode yB 52 = .ok (.aload 5, 2) := by decide +kernel
theorem d54 : decode yB 54 = .ok (.putfield 9, 3) := by decide +kernel
theorem d57 : decode yB 57 = .ok (.return_, 1) := by decide +kernel
def site : List Cond := [.fieldLink "java/lang/String" 38 "java/lang/String" "COMPACT_STRINGS" "Z", Cmp3.tab, CodL.tab, .laysFinal "java/lang/String" "java/lang/String" "value" "[B", .fieldLink "java/lang/String" 9 "java/lang/String" "value" "[B", .laysFinal "java/lang/String" "java/lang/String" "coder" "B", .fieldLink "java/lang/String" 15 "java/lang/String" "coder" "B"] ++ objW "java/lang/String" 1 ++ staticW "java/lang/String" 177 Cmp3.yN ++ staticW "java/lang/String" 47 CodL.yN
def tab : Cond := tabOf yN yB 6 none site
def P (a : Addr) (D : Cell) (fV fC : Field) (b : Addr) (A : Cell) (z : Int32) (o len : Nat) (args : Array Value) (s : State) : Prop := args = #[.ref a, .ref b, .int (Int32.ofNat o), .int (Int32.ofNat len), .null] ∧ Blank "java/lang/String" a D s ∧ Found "java/lang/String" "value" "[B" fV s ∧ Found "java/lang/String" "coder" "B" fC s ∧ Ch b A s ∧ StaticIs s "java/lang/String" "COMPACT_STRINGS" "Z" (.int z) ∧ ¬ z = 0 ∧ 0 < len ∧ o + len ≤ A.slots.size ∧ len ≤ 536870912 ∧ ∀ i, i < len → ¬ 255 < cv A (o + i)
def E (a : Addr) (D : Cell) (fV fC : Field) (A : Cell) (o len : Nat) (r : Option Value) (s u : State) : Prop := Got a D fV fC A o len r s u
/-- len > 0, no char of the range above 255: a Latin-1 String of their low bytes -/
theorem law (l : Launch) (a : Addr) (D : Cell) (fV fC : Field) (b : Addr) (A : Cell) (z : Int32) (o len : Nat) : Law l yN 5 4 2 35 yB 6 none site (P a D fV fC b A z o len) (E a D fV fC A o len) [⟨a, fC.slot⟩, ⟨a, fV.slot⟩] 1 len := by
  refine Law.of_walk (plainFor_of_name (by decide +kernel)) (by decide +kernel) (by decide +kernel) (by decide) (fun _ _ h => by rw [h.1]; rfl) (fun _ U U' hal hh h => ⟨h.1, h.2.1.mv hal hh, h.2.2.1.al hal, h.2.2.2.1.al hal, h.2.2.2.2.1.mv hal hh, h.2.2.2.2.2.1.there hal hh, h.2.2.2.2.2.2⟩) (fun r U U' V V' h1 hal h2 h => Got.mv r U U' V V' h1 hal h2 h) ?_
  intro p e s m args below meth c s₁ X0 hexec hbytes hml hret hlk hnm hown hh0 W hP
  obtain ⟨rfl, hB, f1, f2, hA, s1, hz, l0, l1, l2, hp⟩ := hP
  have a31 := hA.1.2.2.2
  have c1 : Steps p.tables e below (s₁.setTop (entryFrame m #[.ref a, .ref b, .int (Int32.ofNat o), .int (Int32.ofNat len), .null] 6)) (s₁.setTop (mkF m 0 #[.val (.ref a), .val (.ref b), .val (.int (Int32.ofNat o)), .val (.int (Int32.ofNat len)), .val .null, .unset] [])) := entry rfl
  have c2 : Steps p.tables e below (s₁.setTop (entryFrame m #[.ref a, .ref b, .int (Int32.ofNat o), .int (Int32.ofNat len), .null] 6)) (s₁.setTop (mkF m 1 #[.val (.ref a), .val (.ref b), .val (.int (Int32.ofNat o)), .val (.int (Int32.ofNat len)), .val .null, .unset] [.ref a])) := c1.trans (by
    refine XS.aloadN X0.here hexec rfl (hb hbytes d0) rfl rfl ?_
    exact Steps.refl _)
  obtain ⟨T3, X3, q3, st3⟩ := X0.oinit hexec hown (wks W (objW "java/lang/String" 1)) (g := (mkF m 1 #[.val (.ref a), .val (.ref b), .val (.int (Int32.ofNat o)), .val (.int (Int32.ofNat len)), .val .null, .unset] [.ref a])) rfl (by rw [hml]; rfl) (rest := []) rfl (hb hbytes d1) (W := 0) (by show 2 * 0 + 0 ≤ _; decide) (Nat.le_of_ble_eq_true rfl) (Nat.le_of_ble_eq_true rfl)
  have hh3 := q3.trans hh0
  have c4 : Steps p.tables e below (s₁.setTop (entryFrame m #[.ref a, .ref b, .int (Int32.ofNat o), .int (Int32.ofNat len), .null] 6)) (T3.setTop (mkF m 27 #[.val (.ref a), .val (.ref b), .val (.int (Int32.ofNat o)), .val (.int (Int32.ofNat len)), .val .null, .unset] [])) := (c2.trans (st3 _ (Steps.refl _))).trans (by
    refine XS.iloadN X3.here hexec rfl (hb hbytes d4) rfl ?_
    refine XS.ifYes X3.here hexec rfl (pc0 := 5) rfl (hb hbytes d5) rfl (i0_ne_t (nz32 (by omega) l0)) (by decide) rfl ?_
    exact Steps.refl _)
  obtain ⟨T5, X5, q5, st5⟩ := X3.sget hexec hown (wk W (.fieldLink "java/lang/String" 38 "java/lang/String" "COMPACT_STRINGS" "Z")) s1 (fun _ _ h => by rw [hh3]; exact h) (g := (mkF m 27 #[.val (.ref a), .val (.ref b), .val (.int (Int32.ofNat o)), .val (.int (Int32.ofNat len)), .val .null, .unset] [])) rfl (hb hbytes d27)
  have hh5 := q5.trans hh3
  have c6 : Steps p.tables e below (s₁.setTop (entryFrame m #[.ref a, .ref b, .int (Int32.ofNat o), .int (Int32.ofNat len), .null] 6)) (T5.setTop (mkF m 30 #[.val (.ref a), .val (.ref b), .val (.int (Int32.ofNat o)), .val (.int (Int32.ofNat len)), .val .null, .unset] [.int z])) := c4.trans (st5 _ (Steps.refl _))
  have c7 : Steps p.tables e below (s₁.setTop (entryFrame m #[.ref a, .ref b, .int (Int32.ofNat o), .int (Int32.ofNat len), .null] 6)) (T5.setTop (mkF m 36 #[.val (.ref a), .val (.ref b), .val (.int (Int32.ofNat o)), .val (.int (Int32.ofNat len)), .val .null, .unset] [.int (Int32.ofNat len), .int (Int32.ofNat o), .ref b])) := c6.trans (by
    refine XS.ifNo X5.here hexec rfl (hb hbytes d30) rfl (i0_eq_f hz) ?_
    refine XS.aloadN X5.here hexec rfl (hb hbytes d33) rfl rfl ?_
    refine XS.iloadN X5.here hexec rfl (hb hbytes d34) rfl ?_
    refine XS.iloadN X5.here hexec rfl (hb hbytes d35) rfl ?_
    exact Steps.refl _)
  obtain ⟨v8, T8, X8, E8, g8⟩ := X5.callS hexec (Cmp3.law l b A o len) hown (wks W (staticW "java/lang/String" 177 Cmp3.yN)) (wk W Cmp3.tab) (W := 0) (Nat.le_of_ble_eq_true rfl) (Nat.le_of_ble_eq_true rfl) (Nat.le_refl _) (by show 0 + len ≤ len; omega) (g := (mkF m 36 #[.val (.ref a), .val (.ref b), .val (.int (Int32.ofNat o)), .val (.int (Int32.ofNat len)), .val .null, .unset] [.int (Int32.ofNat len), .int (Int32.ofNat o), .ref b])) rfl (by rw [hml]; rfl) c7 (argsL := [.ref b, .int (Int32.ofNat o), .int (Int32.ofNat len)]) (rest := []) rfl rfl (by show 2 * 0 + 0 ≤ _; decide) (hb hbytes d36) (⟨rfl, hA.mv X5.warmed.alike hh5, l1, l2, hp⟩)
  obtain ⟨e8, z8⟩ := E8
  obtain ⟨rfl, N, n1, n2, n3, n4, n5, n6⟩ := NewArr.mv _ T5 s _ _ hh5.symm (Vm.Alike.refl _) rfl e8
  rw [hh5] at z8
  have hB1 := hB.keep X8.warmed.alike (n6 _ _ hB.1)
  have hne : s.heap.size ≠ a := (Nat.ne_of_lt (Array.getElem?_eq_some_iff.mp hB.1).1).symm
  have c9 : Steps p.tables e below (s₁.setTop (entryFrame m #[.ref a, .ref b, .int (Int32.ofNat o), .int (Int32.ofNat len), .null] 6)) (T8.setTop (mkF m 39 #[.val (.ref a), .val (.ref b), .val (.int (Int32.ofNat o)), .val (.int (Int32.ofNat len)), .val .null, .unset] [.ref s.heap.size])) := g8
  have c10 : Steps p.tables e below (s₁.setTop (entryFrame m #[.ref a, .ref b, .int (Int32.ofNat o), .int (Int32.ofNat len), .null] 6)) (T8.setTop (mkF m 45 #[.val (.ref a), .val (.ref b), .val (.int (Int32.ofNat o)), .val (.int (Int32.ofNat len)), .val .null, .val (.ref s.heap.size)] [.int (Int32.ofNat N.slots.size), .ref s.heap.size, .ref a])) := by
    have hc : Steps p.tables e below (s₁.setTop (entryFrame m #[.ref a, .ref b, .int (Int32.ofNat o), .int (Int32.ofNat len), .null] 6)) (T8.setTop (mkF m 45 #[.val (.ref a), .val (.ref b), .val (.int (Int32.ofNat o)), .val (.int (Int32.ofNat len)), .val .null, .val (.ref s.heap.size)] [.int (Int32.ofNat len), .ref s.heap.size, .ref a])) := c9.trans (by
      refine XS.astore X8.here hexec rfl (hb hbytes d39) rfl rfl rfl ?_
      refine XS.aloadN X8.here hexec rfl (hb hbytes d41) rfl rfl ?_
      refine XS.aload X8.here hexec rfl (hb hbytes d42) rfl rfl ?_
      refine XS.iloadN X8.here hexec rfl (hb hbytes d44) rfl ?_
      exact Steps.refl _)
    rw [n4]; exact hc
  obtain ⟨v11, T11, X11, E11, g11⟩ := X8.callS hexec (CodL.law l s.heap.size N) hown (wks W (staticW "java/lang/String" 47 CodL.yN)) (wk W CodL.tab) (W := 1) (Nat.le_of_ble_eq_true rfl) (Nat.le_of_ble_eq_true rfl) (Nat.le_refl _) (by show 0 + len + 0 ≤ len; omega) (g := (mkF m 45 #[.val (.ref a), .val (.ref b), .val (.int (Int32.ofNat o)), .val (.int (Int32.ofNat len)), .val .null, .val (.ref s.heap.size)] [.int (Int32.ofNat N.slots.size), .ref s.heap.size, .ref a])) rfl (by rw [hml]; rfl) c10 (argsL := [.ref s.heap.size, .int (Int32.ofNat N.slots.size)]) (rest := [.ref a]) rfl rfl (by show 2 * 0 + (1 + 0) ≤ _; decide) (hb hbytes d45) (⟨rfl, n1⟩)
  obtain ⟨rfl, q11⟩ := E11
  have hB11 := hB1.mv (X8.warmed.alike.symm.trans X11.warmed.alike) q11
  have c12 : Steps p.tables e below (s₁.setTop (entryFrame m #[.ref a, .ref b, .int (Int32.ofNat o), .int (Int32.ofNat len), .null] 6)) (T11.setTop (mkF m 48 #[.val (.ref a), .val (.ref b), .val (.int (Int32.ofNat o)), .val (.int (Int32.ofNat len)), .val .null, .val (.ref s.heap.size)] [.int 0, .ref a])) := g11
  obtain ⟨T13, X13, p13, bl13, sl13, st13⟩ := X11.finit hexec hown (wk W (.fieldLink "java/lang/String" 15 "java/lang/String" "coder" "B")) (Or.inr ⟨_, (wk W (.laysFinal "java/lang/String" "java/lang/String" "coder" "B"))⟩) (Or.inl ⟨rfl, hnm⟩) f2 (Or.inl rfl) hB11 (t := .byte) (by decide +kernel) rfl (g := (mkF m 48 #[.val (.ref a), .val (.ref b), .val (.int (Int32.ofNat o)), .val (.int (Int32.ofNat len)), .val .null, .val (.ref s.heap.size)] [.int 0, .ref a])) rfl (rest := []) rfl (hb hbytes d48)
  have c14 : Steps p.tables e below (s₁.setTop (entryFrame m #[.ref a, .ref b, .int (Int32.ofNat o), .int (Int32.ofNat len), .null] 6)) (T13.setTop (mkF m 54 #[.val (.ref a), .val (.ref b), .val (.int (Int32.ofNat o)), .val (.int (Int32.ofNat len)), .val .null, .val (.ref s.heap.size)] [.ref s.heap.size, .ref a])) := (c12.trans (st13 _ (Steps.refl _))).trans (by
    refine XS.aloadN X13.here hexec rfl (hb hbytes d51) rfl rfl ?_
    refine XS.aload X13.here hexec rfl (hb hbytes d52) rfl rfl ?_
    exact Steps.refl _)
  obtain ⟨T15, X15, p15, bl15, sl15, st15⟩ := X13.finit hexec hown (wk W (.fieldLink "java/lang/String" 9 "java/lang/String" "value" "[B")) (Or.inr ⟨_, (wk W (.laysFinal "java/lang/String" "java/lang/String" "value" "[B"))⟩) (Or.inl ⟨rfl, hnm⟩) f1 (Or.inl rfl) bl13 (t := (.array .byte)) (by decide +kernel) rfl (g := (mkF m 54 #[.val (.ref a), .val (.ref b), .val (.int (Int32.ofNat o)), .val (.int (Int32.ofNat len)), .val .null, .val (.ref s.heap.size)] [.ref s.heap.size, .ref a])) rfl (rest := []) rfl (hb hbytes d54)
  have c16 : Steps p.tables e below (s₁.setTop (entryFrame m #[.ref a, .ref b, .int (Int32.ofNat o), .int (Int32.ofNat len), .null] 6)) (T15.setTop (mkF m 57 #[.val (.ref a), .val (.ref b), .val (.int (Int32.ofNat o)), .val (.int (Int32.ofNat len)), .val .null, .val (.ref s.heap.size)] [])) := c14.trans (st15 _ (Steps.refl _))
  have ap := apart (Or.inr ⟨_, (wk W (.laysFinal "java/lang/String" "java/lang/String" "value" "[B"))⟩) (Or.inr ⟨_, (wk W (.laysFinal "java/lang/String" "java/lang/String" "coder" "B"))⟩) f1 f2 (t₁ := .array .byte) (t₂ := .byte) (by decide +kernel) (by decide +kernel) (by decide)
  have al := X8.warmed.alike.symm.trans X15.warmed.alike
  have n7 : T11.heap[s.heap.size]? = some N := by rw [q11]; exact n1.1
  exact ⟨T15, none, _, _, _, X15, by simp, rfl, by omega, (fun _ => rfl), ⟨rfl, _, N, bl15, ((Same.refl D _).set _ (by simp)).set _ (by simp), sl15, (Cell.slots_setSlot_ne _ ap).trans sl13, n1.keep al (p15.other hne (p13.other hne n7)), n2, by rw [al.findClass]; exact n3, n4, n5, fun y c h1 h2 => p15.other h1 (p13.other h1 (by rw [q11]; exact n6 y c h2)), by rw [p15.2.2, p13.2.2, q11]; exact z8⟩, fun fs hl => c16.trans (X15.returnOut hexec hret (hb hbytes d57) hl)⟩
end New4
namespace New1
def yN : MethodName := ⟨"java/lang/String", "<init>", "([C)V"⟩
abbrev yB : ByteArray := jdk_42_method_3_code
theorem d0 : decode yB 0 = .ok (.aload_n 0, 1) := by decide +kernel
theorem d1 : decode yB 1 = .ok (.aload_n 1, 1) := by decide +kernel
theorem d2 : decode yB 2 = .ok (.iconst 0, 1) := by decide +kernel
theorem d3 : decode yB 3 = .ok (.aload_n 1, 1) := by decide +kernel
theorem d4 : decode yB 4 = .ok (.arraylength, 1) := by decide +kernel
theorem d5 : decode yB 5 = .ok (.aconst_null, 1) := by decide +kernel
theorem d6 : decode yB 6 = .ok (.invokespecial 27, 3) := by decide +kernel
theorem d9 : decode yB 9 = .ok (.return_, 1) := by decide +kernel
def site : List Cond := [New4.tab] ++ initW "java/lang/String" 27 New4.yN
def tab : Cond := tabOf yN yB 2 none site
def P (a : Addr) (D : Cell) (fV fC : Field) (b : Addr) (A : Cell) (z : Int32) (args : Array Value) (s : State) : Prop := args = #[.ref a, .ref b] ∧ Blank "java/lang/String" a D s ∧ Found "java/lang/String" "value" "[B" fV s ∧ Found "java/lang/String" "coder" "B" fC s ∧ Ch b A s ∧ StaticIs s "java/lang/String" "COMPACT_STRINGS" "Z" (.int z) ∧ ¬ z = 0 ∧ 0 < A.slots.size ∧ A.slots.size ≤ 536870912 ∧ ∀ i, i < A.slots.size → ¬ 255 < cv A i
def E (a : Addr) (D : Cell) (fV fC : Field) (A : Cell) (r : Option Value) (s u : State) : Prop := Got a D fV fC A 0 A.slots.size r s u
/-- new String(chars), not empty, no char above 255: a Latin-1 String of their low bytes -/
theorem law (l : Launch) (a : Addr) (D : Cell) (fV fC : Field) (b : Addr) (A : Cell) (z : Int32) : Law l yN 2 1 3 52 yB 2 none site (P a D fV fC b A z) (E a D fV fC A) [⟨a, fC.slot⟩, ⟨a, fV.slot⟩] 1 A.slots.size := by
  refine Law.of_walk (plainFor_of_name (by decide +kernel)) (by decide +kernel) (by decide +kernel) (by decide) (fun _ _ h => by rw [h.1]; rfl) (fun _ U U' hal hh h => ⟨h.1, h.2.1.mv hal hh, h.2.2.1.al hal, h.2.2.2.1.al hal, h.2.2.2.2.1.mv hal hh, h.2.2.2.2.2.1.there hal hh, h.2.2.2.2.2.2⟩) (fun r U U' V V' h1 hal h2 h => Got.mv r U U' V V' h1 hal h2 h) ?_
  intro p e s m args below meth c s₁ X0 hexec hbytes hml hret hlk hnm hown hh0 W hP
  obtain ⟨rfl, hB, f1, f2, hA, s1, hz, l0, l2, hp⟩ := hP
  have c1 : Steps p.tables e below (s₁.setTop (entryFrame m #[.ref a, .ref b] 2)) (s₁.setTop (mkF m 0 #[.val (.ref a), .val (.ref b)] [])) := entry rfl
  have c2 : Steps p.tables e below (s₁.setTop (entryFrame m #[.ref a, .ref b] 2)) (s₁.setTop (mkF m 6 #[.val (.ref a), .val (.ref b)] [.null, .int (Int32.ofNat A.slots.size), .int 0, .ref b, .ref a])) := c1.trans (by
    refine XS.aloadN X0.here hexec rfl (hb hbytes d0) rfl rfl ?_
    refine XS.aloadN X0.here hexec rfl (hb hbytes d1) rfl rfl ?_
    refine iconstV X0.here hexec rfl 0 (hb hbytes d2) (by decide) ?_
    refine XS.aloadN X0.here hexec rfl (hb hbytes d3) rfl rfl ?_
    refine X0.alen hexec (hA.1.mv X0.warmed.alike hh0) rfl rfl (hb hbytes d4) ?_
    refine XS.aconstNull X0.here hexec rfl (hb hbytes d5) ?_
    exact Steps.refl _)
  obtain ⟨v3, T3, X3, E3, g3⟩ := X0.callN hexec (New4.law l a D fV fC b A z 0 A.slots.size) rfl hown (wks W (initW "java/lang/String" 27 New4.yN)) (W New4.tab (by simp only [site, List.mem_cons, List.mem_append, true_or, or_true])) (W := 0) (Nat.le_of_ble_eq_true rfl) (Nat.le_of_ble_eq_true rfl) (Nat.le_refl _) (by show 0 + A.slots.size ≤ A.slots.size; omega) (g := (mkF m 6 #[.val (.ref a), .val (.ref b)] [.null, .int (Int32.ofNat A.slots.size), .int (Int32.ofNat 0), .ref b, .ref a])) rfl (by rw [hml]; rfl) c2 (argsL := [.ref b, .int (Int32.ofNat 0), .int (Int32.ofNat A.slots.size), .null]) (rest := []) rfl rfl (by show 2 * 0 + 0 ≤ _; decide) (hb hbytes d6) (⟨rfl, hB.mv X0.warmed.alike hh0, f1.al X0.warmed.alike, f2.al X0.warmed.alike, hA.mv X0.warmed.alike hh0, s1.there X0.warmed.alike hh0, hz, l0, by omega, l2, fun i hi => by rw [Nat.zero_add]; exact hp i hi⟩)
  have e0 := Got.mv _ s₁ s _ _ hh0.symm (Vm.Alike.refl _) rfl E3
  obtain rfl := e0.1
  have c4 : Steps p.tables e below (s₁.setTop (entryFrame m #[.ref a, .ref b] 2)) (T3.setTop (mkF m 9 #[.val (.ref a), .val (.ref b)] [])) := g3
  exact ⟨T3, none, _, _, _, X3, by simp, rfl, by omega, (fun _ => rfl), e0, fun fs hl => c4.trans (X3.returnOut hexec hret (hb hbytes d9) hl)⟩
theorem pays {l : Launch} {R : Room} {p : Program} {e : Env} {below : List Frame} {s : State} {sargs : Array Value} {len W : Nat} (a : Addr) (D : Cell) (fV fC : Field) (b : Addr) (A : Cell) (z : Int32) (htab : tab.before sargs s = true) (hfr : 4 ≤ R.frames) (hlo : W + 65 ≤ R.locals) :
    Back l R p e below s sargs yN len W (fun A₁ a₁ => A₁.cells + 1 ≤ R.cells ∧ A₁.slots + A.slots.size ≤ R.slots ∧ P a D fV fC b A z a₁ A₁.U) (fun A₁ _ v₁ B₁ => E a D fV fC A v₁ A₁.U B₁.U ∧ B₁.locs = A₁.locs ++ [⟨a, fC.slot⟩, ⟨a, fV.slot⟩] ∧ B₁.cells = A₁.cells + 1 ∧ B₁.slots = A₁.slots + A.slots.size) :=
  (law l a D fV fC b A z).pays htab hfr (by omega)
end New1
/-- the byte, read back as charAt reads it, is the char -/
theorem lo8_mask {x : Int32} (h0 : ¬ x < 0) (h1 : ¬ 255 < x) : lo8 x &&& 255 = x := by
  have t : ∀ k : Fin 256, lo8 (Int32.ofNat k.val) &&& 255 = Int32.ofNat k.val := by decide +kernel
  rw [Int32.lt_iff_toInt_lt] at h0 h1
  have e0 : (0 : Int32).toInt = 0 := rfl
  have e1 : (255 : Int32).toInt = 255 := rfl
  obtain ⟨k, hk⟩ : ∃ k : Nat, x.toInt = k := ⟨x.toInt.toNat, by omega⟩
  have hx : x = Int32.ofNat k := Int32.toInt_inj.mp (by rw [hk, Int32.toInt_ofNat_small (by omega)])
  rw [hx]
  exact t ⟨k, by omega⟩
end StrChars
namespace StrChars.Road
open Jvm Sem ClassFile Op Lib Jvm.Stand Jvm.Free Jvm.Free.XT
open Jvm.Lib.Cold (StaticIs)
abbrev ST : String := "java/lang/String"
/-- every table word that New1's law asks, flat -/
abbrev words : List Jvm.Cond := [.code New1.yN New1.yB 2 none, .initialized ST, .methodLink ST 27 New4.yN, .instanceMethod New4.yN,
  .code New4.yN New4.yB 6 none, .fieldLink ST 38 ST "COMPACT_STRINGS" "Z", .laysFinal ST ST "value" "[B", .fieldLink ST 9 ST "value" "[B", .laysFinal ST ST "coder" "B", .fieldLink ST 15 ST "coder" "B",
  .methodLink ST 1 Lib.objectInit, .instanceMethod Lib.objectInit, .code Lib.objectInit ⟨#[0xb1]⟩ 1 none, .methodLink ST 177 Cmp3.yN, .static Cmp3.yN, .methodLink ST 47 CodL.yN, .static CodL.yN,
  .code Cmp3.yN Cmp3.yB 6 (some (.array .byte)), .initialized U16, .arrayClass .byte, .methodLink U16 115 Cmp5.yN, .static Cmp5.yN, .code Cmp5.yN Cmp5.yB 7 (some .int), .code CodL.yN CodL.yB 2 (some .byte)]
theorem tab_of {a : Array Value} {s : State} (h : ∀ w ∈ words, w.before a s = true) : New1.tab.before a s = true := by
  have h5 : Cmp5.tab.before a s = true := unparts (wk h (.code Cmp5.yN Cmp5.yB 7 (some .int))) (wks h (.initialized Cmp5.yN.cls :: Cmp5.site))
  have hc : CodL.tab.before a s = true := unparts (wk h (.code CodL.yN CodL.yB 2 (some .byte))) (wks h (.initialized CodL.yN.cls :: CodL.site))
  have q5 : ∀ w ∈ Cmp5.tab :: words, w.before a s = true := fun w hw => (List.mem_cons.mp hw).elim (fun e => e ▸ h5) (h w)
  have h3 : Cmp3.tab.before a s = true := unparts (wk q5 (.code Cmp3.yN Cmp3.yB 6 (some (.array .byte)))) (wks q5 (.initialized Cmp3.yN.cls :: Cmp3.site))
  have q3 : ∀ w ∈ Cmp3.tab :: CodL.tab :: words, w.before a s = true := fun w hw => (List.mem_cons.mp hw).elim (fun e => e ▸ h3) fun hw => (List.mem_cons.mp hw).elim (fun e => e ▸ hc) (h w)
  have h4 : New4.tab.before a s = true := unparts (wk q3 (.code New4.yN New4.yB 6 none)) (wks q3 (.initialized New4.yN.cls :: New4.site))
  have q4 : ∀ w ∈ New4.tab :: words, w.before a s = true := fun w hw => (List.mem_cons.mp hw).elim (fun e => e ▸ h4) (h w)
  exact unparts (wk q4 (.code New1.yN New1.yB 2 none)) (wks q4 (.initialized New1.yN.cls :: New1.site))
/-- the words ride from the start Z to the walk's own state -/
theorem moved {Z s : State} {a0 args : Array Value} (hZ : Z.Warmed39 s.vm) (hw : ∀ d ∈ words, d.before a0 Z = true) : ∀ d ∈ words, d.before args s = true := fun d hd => by
  have q := hw d hd
  have t : ∀ d ∈ words, d = .arrayClass .byte ∨ (d.onTables && d.keepsFace) = true := by decide +kernel
  rcases t d hd with rfl | t
  · exact RoadKit.mvA hZ q
  · exact RoadKit.mv hZ q t
/-- WHAT COMES BACK, over the tables of the start Z: h the heap at the call, h' behind it -/
def Q (Z : State) (x : Addr) (A : Cell) (h : Heap) (v : Option Value) (h' : Heap) (L : List Loc) : Prop := v = none ∧ (∀ y ∈ L, y.base = x) ∧ RoadKit.Keep h h' [x] ∧ h'.size = h.size + 1 ∧ RoadKit.Exa Z h' x ST ∧ RoadKit.Fld Z h' x ST "value" "[B" (.ref h.size) ∧ RoadKit.Fld Z h' x ST "coder" "B" (.int 0) ∧
  (∃ V : Cell, RoadKit.Arr Z h' h.size V .byte ∧ V.vm = .none ∧ Z.vm.findClass "[B" = some V.cls ∧ V.slots.size = A.slots.size ∧ ∀ j, j < A.slots.size → V.slots[j]? = some (.int (lo8 (cv A j)))) ∧
  ∀ (O n d : String) (w : Value), RoadKit.Fld Z h x O n d w → RoadKit.slotOf Z O n d ≠ RoadKit.slotOf Z ST "value" "[B" → RoadKit.slotOf Z O n d ≠ RoadKit.slotOf Z ST "coder" "B" → RoadKit.Fld Z h' x O n d w
/-- **new String(chars) AT A CALL, IN THE ROAD'S FORM**: for specialBack behind newO: x the fresh String, b the char[] with the cell A -/
theorem back {p : Program} {l : Launch} {e : Env} {R : Room} {s : State} {args : Array Value} {below : List Frame} {len W : Nat} {Z : State} {a0 : Array Value} {h : Heap} (hZ : Z.Warmed39 s.vm) (hw : ∀ d ∈ words, d.before a0 Z = true) {kI : Nat} (wi : (Jvm.Cond.instantiable ST kI).before a0 Z = true)
    {x b : Addr} {A : Cell} {z : Int32} {v0 c0 : Value} (E : RoadKit.Exa Z h x ST) (V : RoadKit.Fld Z h x ST "value" "[B" v0) (C : RoadKit.Fld Z h x ST "coder" "B" c0) (K : RoadKit.Arr Z h b A .char) (hty : Typed .char A) (S : RoadKit.Sta Z h ST "COMPACT_STRINGS" "Z" (.int z)) (hz : ¬ z = 0)
    (l0 : 0 < A.slots.size) (l2 : A.slots.size ≤ 536870912) (hp : ∀ i, i < A.slots.size → ¬ 255 < cv A i) (hfr : 4 ≤ R.frames) (hlo : W + 65 ≤ R.locals) :
    Back l R p e below s args New1.yN len W (fun P a => a = #[.ref x, .ref b] ∧ P.U.heap = h ∧ P.cells + 1 ≤ R.cells ∧ P.slots + A.slots.size ≤ R.slots)
      (fun P _ v B => ∃ L, Q Z x A h v B.U.heap L ∧ B.locs = P.locs ++ L ∧ B.cells = P.cells + 1 ∧ B.slots = P.slots + A.slots.size) := by
  intro m meth c P g ig mk a X hg hsize hdg hW hn hp'
  obtain ⟨rfl, rfl, r1, r2⟩ := hp'
  have al : Z.vm.Alike P.U.vm := hZ.alike.trans X.warmed.alike
  obtain ⟨D, cfV, kV, iV, fV, hD, gV, stV, knV, obV, asV, slV⟩ := id V
  obtain ⟨D', cfC, kC, iC, fC, hD', gC, stC, -, -, asC, slC⟩ := id C
  cases hD.symm.trans hD'
  obtain ⟨D2, kD, e1, e2, e3, e4, e5⟩ := id E
  cases hD.symm.trans e1
  obtain ⟨c2, k2, i1, i2, i3, -⟩ := Cond.instantiable_spec wi
  cases e2.symm.trans i1
  cases e3.symm.trans i2
  obtain ⟨kU, u1, u2⟩ := al.2.2 _ _ e3
  have hB : Blank ST x D P.U := ⟨hD, ⟨knV, fun q hq => by rw [hq] at obV; cases obV⟩, by rw [al.findClass]; exact e2, kU, u1, by rw [u2]; exact i3, by rw [u2]; exact e5 i3⟩
  have F1 : Found ST "value" "[B" fV P.U := ⟨SBG.found_only al ⟨cfV, kV, iV, gV⟩, stV⟩
  have F2 : Found ST "coder" "B" fC P.U := ⟨SBG.found_only al ⟨cfC, kC, iC, gC⟩, stC⟩
  have hA : Ch b A P.U := ⟨⟨K.1, State.isArrayOf_alike al K.2.1, K.2.2, by omega⟩, hty⟩
  have hS : StaticIs P.U ST "COMPACT_STRINGS" "Z" (.int z) := by
    obtain ⟨cfS, iS, kS, fS, st, cS, t1, t2, t3, t4, t5, t6, t7⟩ := S
    exact StaticIs.there (s := { Z with heap := P.U.heap }) ⟨cfS, iS, kS, fS, st, cS, t1, t2, t3, t4, t5, (fun q => by rw [q] at t6; cases t6), t7⟩ al rfl
  obtain ⟨v, B, X', ⟨⟨hv, E', V', q1, q2, q3, q4, q5, q6, q7, q8, q9, q10, q11⟩, hl, hc, hs⟩, st⟩ := New1.pays x D fV fC b A z (tab_of (moved hZ hw)) hfr hlo m meth c P g ig mk _ X hg hsize hdg hW hn ⟨r1, r2, rfl, hB, F1, F2, hA, hS, hz, l0, l2, hp⟩
  have al' : Z.vm.Alike B.U.vm := hZ.alike.trans X'.warmed.alike
  have hsz : E'.slots.size = D.slots.size := by
    obtain ⟨-, -, -, kB, w1, w2, w3⟩ := q1
    obtain ⟨kB', y1, y2⟩ := al'.2.2 _ _ e3
    rw [q2.2.1] at w1
    cases w1.symm.trans y1
    rw [w3, e5 i3, y2]
  refine ⟨v, B, X', ⟨_, ⟨hv, ?_, ⟨by omega, fun y cy hy hn' => q10 y cy (by simpa using hn') hy, fun y cy hy => ?_⟩, q11, ⟨E', _, q1.1, by rw [q2.2.1]; exact e2, by rw [q2.2.1]; exact e3, by rw [q2.1]; exact obV, fun _ => by rw [hsz]; exact e5 i3⟩,
    ⟨E', cfV, kV, iV, fV, q1.1, gV, stV, by rw [q2.1]; exact knV, by rw [q2.1]; exact obV, by rw [q2.2.1]; exact asV, q3⟩, ⟨E', cfC, kC, iC, fC, q1.1, gC, stC, by rw [q2.1]; exact knV, by rw [q2.1]; exact obV, by rw [q2.2.1]; exact asC, q4⟩,
    ⟨V', ⟨q5.1, State.isArrayOf_alike al'.symm q5.2.1, q5.2.2.1⟩, q6, by rw [← al'.findClass]; exact q7, q8, fun j hj => by have := q9 j hj; rwa [Nat.zero_add] at this⟩, fun O n d w F n1 n2 => ?_⟩, hl, hc, hs⟩, st⟩
  · intro y hy
    simp only [List.mem_cons, List.not_mem_nil, or_false] at hy
    rcases hy with rfl | rfl <;> rfl
  · by_cases q : y = x
    · subst q
      cases hD.symm.trans hy
      exact ⟨E', q1.1, q2.2.1, q2.1, hsz⟩
    · exact ⟨cy, q10 y cy q hy, rfl, rfl, rfl⟩
  · obtain ⟨D3, cf, k, i, f, g1, g2, g3, g4, g5, g6, g7⟩ := F
    cases hD.symm.trans g1
    simp only [RoadKit.slotOf, g2, gV, gC, Option.map_some, Option.getD_some] at n1 n2
    exact ⟨E', cf, k, i, f, q1.1, g2, g3, by rw [q2.1]; exact g4, by rw [q2.1]; exact g5, by rw [q2.2.1]; exact g6, by rw [q2.2.2 f.slot (by simp [n1, n2])]; exact g7⟩
end StrChars.Road
namespace StrChars.Road
open Jvm Sem ClassFile Op Lib Jvm.Stand Jvm.Free Jvm.Free.XT
/-- WHAT COMES BACK, the byte[] as a list of values -/
def QA (Z : State) (x : Addr) (zn : Int32) (cs : List Int32) (h : Heap) (v : Option Value) (h' : Heap) (L : List Loc) : Prop := v = none ∧ (∀ y ∈ L, y.base = x) ∧ RoadKit.Keep h h' [x] ∧ h'.size = h.size + 1 ∧ RoadKit.Exa Z h' x ST ∧ RoadKit.Fld Z h' x ST "value" "[B" (.ref h.size) ∧ RoadKit.Fld Z h' x ST "coder" "B" (.int 0) ∧
  (∃ kb, Z.vm.findClass "[B" = some kb ∧ RoadKit.Arv Z h' h.size kb .byte zn (cs.map fun c => .int (lo8 c)) (.int 0)) ∧
  ∀ (O n d : String) (w : Value), RoadKit.Fld Z h x O n d w → RoadKit.slotOf Z O n d ≠ RoadKit.slotOf Z ST "value" "[B" → RoadKit.slotOf Z O n d ≠ RoadKit.slotOf Z ST "coder" "B" → RoadKit.Fld Z h' x O n d w
/-- **new String(chars) AT A CALL, THE ARRAYS AS LISTS**: the char[] at b holds cs, not empty, no char above 255 -/
theorem backArv {p : Program} {l : Launch} {e : Env} {R : Room} {s : State} {args : Array Value} {below : List Frame} {len W : Nat} {Z : State} {a0 : Array Value} {h : Heap} (hZ : Z.Warmed39 s.vm) (hw : ∀ d ∈ words, d.before a0 Z = true) {kI : Nat} (wi : (Jvm.Cond.instantiable ST kI).before a0 Z = true)
    {x b : Addr} {k : ClassId} {zn z : Int32} {cs : List Int32} {dv v0 c0 : Value} (E : RoadKit.Exa Z h x ST) (V : RoadKit.Fld Z h x ST "value" "[B" v0) (C : RoadKit.Fld Z h x ST "coder" "B" c0) (K : RoadKit.Arv Z h b k .char zn (cs.map Value.int) dv) (S : RoadKit.Sta Z h ST "COMPACT_STRINGS" "Z" (.int z)) (hz : ¬ z = 0)
    (hlen : zn.toNatClampNeg = cs.length) (h0 : 0 < cs.length) (hbig : cs.length ≤ 536870912) (hall : ∀ c ∈ cs, ¬ 255 < c) (hfr : 4 ≤ R.frames) (hlo : W + 65 ≤ R.locals) :
    Back l R p e below s args New1.yN len W (fun P a => a = #[.ref x, .ref b] ∧ P.U.heap = h ∧ P.cells + 1 ≤ R.cells ∧ P.slots + cs.length ≤ R.slots)
      (fun P _ v B => ∃ L, QA Z x zn cs h v B.U.heap L ∧ B.locs = P.locs ++ L ∧ B.cells = P.cells + 1 ∧ B.slots = P.slots + cs.length) := by
  obtain ⟨A, K1, K2, K3, K4, K5, K6⟩ := K
  have e : A.slots.size = cs.length := K3.trans hlen
  have hat : ∀ (i : Nat) (hi : i < cs.length), A.slots[i]? = some (.int cs[i]) := fun i hi => by rw [K5 i (by omega)]; simp [List.getD_eq_getElem?_getD, hi]
  have hcv : ∀ (i : Nat) (hi : i < cs.length), cv A i = cs[i] := fun i hi => by unfold cv; rw [hat i hi]
  have hty : Typed .char A := fun i v hv => by
    have hi : i < A.slots.size := (Array.getElem?_eq_some_iff.mp hv).1
    have q := K5 i hi
    rw [hv] at q
    rw [Option.some.inj q]
    exact K6 i hi
  refine Back.mono (back hZ hw wi E V C K1 hty S hz (by omega) (by omega) (fun i hi => by rw [hcv i (by omega)]; exact hall _ (List.getElem_mem _)) hfr hlo) (fun P a hp => ⟨hp.1, hp.2.1, hp.2.2.1, by rw [e]; exact hp.2.2.2⟩) (fun P a v B hp hq => ?_)
  obtain ⟨L, ⟨q1, q2, q3, q4, q5, q6, q7, ⟨V', v1, v2, v3, v4, v5⟩, q9⟩, hl, hc, hs⟩ := hq
  refine ⟨L, ⟨q1, q2, q3, q4, q5, q6, q7, ⟨V'.cls, v3, V', v1, rfl, by rw [v4, e, hlen], K4, fun i hi => ?_, fun i hi => ?_⟩, q9⟩, hl, hc, by rw [hs, e]⟩
  · have hi' : i < cs.length := by omega
    rw [v5 i (by omega), hcv i hi']; simp [List.getD_eq_getElem?_getD, hi']
  · have hi' : i < cs.length := by omega
    simp only [List.getD_eq_getElem?_getD, List.getElem?_map, List.getElem?_eq_getElem hi', Option.map_some, Option.getD_some]
    exact fits_lo8 _
end StrChars.Road
namespace StrChars.Road
open Jvm Sem ClassFile Op Lib Jvm.Stand Jvm.Free Jvm.Free.XT
/-- WHAT COMES BACK, in the writer's own shape -/
def QV (Z : State) (x : Addr) (N : Int32) (bs : List Int32) (h : Heap) (n0 : Nat) (v : Option Value) (h' : Heap) (L : List Loc) : Prop := v = none ∧ RoadKit.Fr n0 L ∧ RoadKit.Keep h h' [x] ∧ RoadKit.Exa Z h' x ST ∧ RoadKit.Fld Z h' x ST "coder" "B" (.int 0) ∧
  ∃ (t : Addr) (kb : ClassId), n0 ≤ t ∧ h.size ≤ t ∧ ¬ t = x ∧ RoadKit.Fld Z h' x ST "value" "[B" (.ref t) ∧ RoadKit.Arv Z h' t kb .byte N (bs.map Value.int) (.int 0)
/-- **new String(chars) AT A CALL, FOR THE WRITER**: a char[] of n known ints, each 0 to 255 -/
theorem backV {p : Program} {l : Launch} {e : Env} {R : Room} {s : State} {args : Array Value} {below : List Frame} {len W : Nat} {Z : State} {a0 : Array Value} {h : Heap} (hZ : Z.Warmed39 s.vm) (hw : ∀ d ∈ words, d.before a0 Z = true) {kI : Nat} (wi : (Jvm.Cond.instantiable ST kI).before a0 Z = true)
    {x b : Addr} {kC : ClassId} {cs bs : List Int32} {d v0 c0 : Value} {z N : Int32} {n n0 : Nat} (hx0 : n0 ≤ x) (hh0 : n0 ≤ h.size) (E : RoadKit.Exa Z h x ST) (V : RoadKit.Fld Z h x ST "value" "[B" v0) (C : RoadKit.Fld Z h x ST "coder" "B" c0) (K : RoadKit.Arv Z h b kC .char N (cs.map Value.int) d) (S : RoadKit.Sta Z h ST "COMPACT_STRINGS" "Z" (.int z)) (hz : ¬ z = 0)
    (hn : cs.length = n) (hN : N = Int32.ofNat n) (l0 : 0 < n) (l2 : n ≤ 4000) (hp : ∀ c ∈ cs, ¬ c < 0 ∧ ¬ (255 : Int32) < c) (hb : bs = cs.map (fun c => c.toInt8.toInt32)) (hfr : 4 ≤ R.frames) (hlo : W + 65 ≤ R.locals) :
    Back l R p e below s args (⟨"java/lang/String", "<init>", "([C)V"⟩ : MethodName) len W (fun P a => a = #[.ref x, .ref b] ∧ P.U.heap = h ∧ P.cells + 1 ≤ R.cells ∧ P.slots + n ≤ R.slots)
      (fun P _ v B => ∃ L, QV Z x N bs h n0 v B.U.heap L ∧ B.locs = P.locs ++ L ∧ B.cells = P.cells + 1 ∧ B.slots = P.slots + n) := by
  subst hn hN hb
  refine Back.mono (backArv hZ hw wi E V C K S hz (n32 (by omega)) l0 (by omega) (fun c hc => (hp c hc).2) hfr hlo) (fun P a hp => hp) (fun P a v B hp hq => ?_)
  obtain ⟨L, ⟨q1, q2, q3, q4, q5, q6, q7, ⟨kb, v1, v2⟩, q9⟩, hl, hc, hs⟩ := hq
  exact ⟨L, ⟨q1, fun y hy => by rw [q2 y hy]; exact hx0, q3, q5, q7, h.size, kb, hh0, Nat.le_refl _, Nat.ne_of_gt E.lt, q6, by rw [List.map_map]; exact v2⟩, hl, hc, hs⟩
end StrChars.Road
namespace StrChars
open Jvm Sem ClassFile Op Lib Jvm.Stand Jvm.Free.XT Jvm.Free.ALB Jvm.Free.JM Jvm.Free
open Jvm.Lib.Cold (StaticIs)
def hi8 (x : Int32) : Int32 := lo8 (x >>> ((8 : Int32) &&& 31))
/-- what StringUTF16.getChar makes of two bytes -/
def pairCh (u v : Int32) : Int32 := (((u &&& 255) <<< ((0 : Int32) &&& 31)) ||| ((v &&& 255) <<< ((8 : Int32) &&& 31))).toUInt32.toUInt16.toUInt32.toInt32
theorem shr0 (c : Int32) : c >>> ((0 : Int32) &&& 31) = c := by
  have e : ((0 : Int32) &&& 31) = 0 := by decide
  rw [e]
  apply Int32.toBitVec_inj.mp
  rw [Int32.toBitVec_shiftRight]
  have e1 : ((0 : Int32).toBitVec.smod 32) = 0#32 := by decide
  rw [e1, BitVec.sshiftRight_eq']
  exact BitVec.sshiftRight_zero
theorem lo8_and (x : Int32) : (lo8 x &&& 255).toBitVec.toNat = x.toBitVec.toNat % 256 := by
  have h : (lo8 x).toBitVec = (x.toBitVec.signExtend 8).signExtend 32 := by rw [lo8, Int8.toBitVec_toInt32, Int32.toBitVec_toInt8]
  rw [Int32.toBitVec_and, BitVec.toNat_and, h]
  have e : ((x.toBitVec.signExtend 8).signExtend 32).toNat % 256 = x.toBitVec.toNat % 256 := by
    rw [BitVec.toNat_signExtend]
    have hlt := x.toBitVec.isLt
    simp only [BitVec.toNat_setWidth, BitVec.toNat_signExtend]
    split <;> split <;> omega
  rw [← e]
  exact Nat.and_two_pow_sub_one_eq_mod _ 8
theorem pair_says {c : Int32} (h0 : ¬ c < 0) (h1 : ¬ 65535 < c) : pairCh (lo8 c) (hi8 c) = c := by
  rw [Int32.lt_iff_toInt_lt] at h0 h1
  have e0 : (0 : Int32).toInt = 0 := rfl
  have e1 : (65535 : Int32).toInt = 65535 := rfl
  have hc : c.toInt = c.toBitVec.toNat := by
    have := c.toBitVec.isLt
    have e : c.toInt = c.toBitVec.toInt := rfl
    rw [e] at h0 h1
    rw [e]
    rw [BitVec.toInt_eq_toNat_cond] at h0 h1 ⊢
    split at h0 <;> split <;> omega
  have hn : c.toBitVec.toNat < 65536 := by omega
  have a1 := lo8_and c
  have a2 : (hi8 c &&& 255).toBitVec.toNat = c.toBitVec.toNat / 256 := by
    rw [hi8, lo8_and]
    have e : ((8 : Int32) &&& 31) = 8 := by decide
    rw [e, Int32.toBitVec_shiftRight]
    have e2 : ((8 : Int32).toBitVec.smod 32) = 8#32 := by decide
    rw [e2, BitVec.sshiftRight_eq', BitVec.toNat_sshiftRight_of_msb_false (by rw [BitVec.msb_eq_false_iff_two_mul_lt]; omega)]
    show c.toBitVec.toNat >>> 8 % 256 = _
    rw [Nat.shiftRight_eq_div_pow]
    omega
  unfold pairCh
  apply Int32.toBitVec_inj.mp
  apply BitVec.eq_of_toNat_eq
  have f0 : ((0 : Int32) &&& 31) = 0 := by decide
  have f8 : ((8 : Int32) &&& 31) = 8 := by decide
  rw [f0, f8]
  have g : (((lo8 c &&& 255) <<< (0 : Int32)) ||| ((hi8 c &&& 255) <<< (8 : Int32))).toBitVec.toNat = c.toBitVec.toNat := by
    rw [Int32.toBitVec_or, Int32.toBitVec_shiftLeft, Int32.toBitVec_shiftLeft]
    have s0 : ((0 : Int32).toBitVec.smod 32) = 0#32 := by decide
    have s8 : ((8 : Int32).toBitVec.smod 32) = 8#32 := by decide
    rw [s0, s8, BitVec.toNat_or]
    simp only [BitVec.shiftLeft_eq', BitVec.toNat_shiftLeft, a1, a2]
    show (c.toBitVec.toNat % 256) <<< 0 % 2 ^ 32 ||| (c.toBitVec.toNat / 256) <<< 8 % 2 ^ 32 = _
    rw [Nat.shiftLeft_zero, Nat.mod_eq_of_lt (show c.toBitVec.toNat % 256 < 2 ^ 32 by omega), Nat.mod_eq_of_lt (show (c.toBitVec.toNat / 256) <<< 8 < 2 ^ 32 by rw [Nat.shiftLeft_eq]; omega), Nat.or_comm, ← Nat.shiftLeft_add_eq_or_of_lt (by omega), Nat.shiftLeft_eq]
    omega
  show BitVec.toNat (((((lo8 c &&& 255) <<< (0 : Int32)) ||| ((hi8 c &&& 255) <<< (8 : Int32))).toBitVec.setWidth 16).setWidth 32) = _
  rw [BitVec.toNat_setWidth, BitVec.toNat_setWidth, g]
  omega
end StrChars
namespace StrChars
open Jvm Sem ClassFile Op Lib Jvm.Stand Jvm.Free.XT Jvm.Free.ALB Jvm.Free.JM Jvm.Free
open Jvm.Lib.Cold (StaticIs)
theorem shr1 {n : Nat} (h : 2 * n < 2 ^ 31) : Int32.ofNat (2 * n) >>> ((1 : Int32) &&& 31) = Int32.ofNat n := by
  have e : ((1 : Int32) &&& 31) = 1 := by decide
  rw [e]
  apply Int32.toBitVec_inj.mp
  rw [Int32.toBitVec_shiftRight]
  have e1 : ((1 : Int32).toBitVec.smod 32) = 1#32 := by decide
  have hm : (BitVec.ofNat 32 (2 * n)).toNat = 2 * n := by rw [BitVec.toNat_ofNat, Nat.mod_eq_of_lt (by omega)]
  rw [e1, BitVec.sshiftRight_eq']
  apply BitVec.eq_of_toNat_eq
  show ((BitVec.ofNat 32 (2 * n)).sshiftRight 1).toNat = (BitVec.ofNat 32 n).toNat
  rw [BitVec.toNat_sshiftRight_of_msb_false (by rw [BitVec.msb_eq_false_iff_two_mul_lt, hm]; omega), hm, BitVec.toNat_ofNat, Nat.shiftRight_eq_div_pow]
  omega
/-- charAt's cast of a byte read back -/
def chr8 (u : Int32) : Int32 := (u &&& 255).toUInt32.toUInt16.toUInt32.toInt32
theorem chr8_lo8 {c : Int32} (h0 : ¬ c < 0) (h1 : ¬ 255 < c) : chr8 (lo8 c) = c := by
  have t : ∀ k : Fin 256, (Int32.ofNat k.val).toUInt32.toUInt16.toUInt32.toInt32 = Int32.ofNat k.val := by decide +kernel
  unfold chr8
  rw [lo8_mask h0 h1]
  rw [Int32.lt_iff_toInt_lt] at h0 h1
  have e0 : (0 : Int32).toInt = 0 := rfl
  have e1 : (255 : Int32).toInt = 255 := rfl
  obtain ⟨k, hk⟩ : ∃ k : Nat, c.toInt = k := ⟨c.toInt.toNat, by omega⟩
  have hx : c = Int32.ofNat k := Int32.toInt_inj.mp (by rw [hk, Int32.toInt_ofNat_small (by omega)])
  rw [hx]
  exact t ⟨k, by omega⟩
theorem narrow_ch {c : Int32} (h0 : ¬ c < 0) (h1 : ¬ 65535 < c) : narrow .char (.int c) = .int c := by
  have q : narrow .char (.int (pairCh (lo8 c) (hi8 c))) = .int (pairCh (lo8 c) (hi8 c)) := narrow_c _
  rwa [pair_says h0 h1] at q
/-- the array's cell V codes the n chars f 0 .. f (n - 1) by the coder cd, as the JDK does: coder 1 just where some char is above 255 -/
def Cod (cd : Int32) (n : Nat) (f : Nat → Int32) (V : Cell) : Prop := (cd = 0 ∧ V.slots.size = n ∧ ∀ j, j < n → V.slots[j]? = some (.int (lo8 (f j))) ∧ ¬ 255 < f j) ∨ (cd = 1 ∧ V.slots.size = 2 * n ∧ (∀ j, j < n → V.slots[2 * j]? = some (.int (lo8 (f j))) ∧ V.slots[2 * j + 1]? = some (.int (hi8 (f j)))) ∧ ∃ j, j < n ∧ 255 < f j)
theorem Cod.cd {cd : Int32} {n : Nat} {f : Nat → Int32} {V : Cell} (h : Cod cd n f V) : cd = 0 ∨ cd = 1 := h.imp (fun q => q.1) fun q => q.1
theorem Cod.len {cd : Int32} {n : Nat} {f : Nat → Int32} {V : Cell} (h : Cod cd n f V) (hs : V.slots.size < 2 ^ 31) : Int32.ofNat V.slots.size >>> (cd &&& 31) = Int32.ofNat n := by
  rcases h with ⟨rfl, h, -⟩ | ⟨rfl, h, -⟩
  · rw [shr0, h]
  · rw [h, shr1 (by omega)]
/-- **x is a String of the n chars f 0 .. f (n - 1)**, Latin-1 or UTF-16; its array at t has the cell V -/
def Txt (x t : Addr) (V : Cell) (cd : Int32) (n : Nat) (f : Nat → Int32) (U : State) : Prop := Exact "java/lang/String" x U ∧ Has x "java/lang/String" "value" "[B" (.ref t) U ∧ Has x "java/lang/String" "coder" "B" (.int cd) U ∧ XT.Arr .byte t V U ∧ Cod cd n f V ∧ ∀ j, j < n → ¬ f j < 0 ∧ ¬ 65535 < f j
theorem Txt.mv {x t : Addr} {V : Cell} {cd : Int32} {n : Nat} {f : Nat → Int32} {U U' : State} (h : Txt x t V cd n f U) (hal : U.vm.Alike U'.vm) (hh : U'.heap = U.heap) : Txt x t V cd n f U' := ⟨h.1.mv hal hh, h.2.1.mv hal hh, h.2.2.1.mv hal hh, h.2.2.2.1.mv hal hh, h.2.2.2.2⟩
namespace Cdr
def yN : MethodName := ⟨"java/lang/String", "coder", "()B"⟩
abbrev yB : ByteArray := jdk_42_method_152_code
theorem d0 : decode yB 0 = .ok (.getstatic 38, 3) := by decide +kernel
theorem d3 : decode yB 3 = .ok (.ifCond (.eq) 10, 3) := by decide +kernel
theorem d6 : decode yB 6 = .ok (.aload_n 0, 1) := by decide +kernel
theorem d7 : decode yB 7 = .ok (.getfield 15, 3) := by decide +kernel
theorem d10 : decode yB 10 = .ok (.goto 4, 3) := by decide +kernel
theorem d14 : decode yB 14 = .ok (.ireturn, 1) := by decide +kernel
def site : List Cond := [.fieldLink "java/lang/String" 38 "java/lang/String" "COMPACT_STRINGS" "Z", .fieldLink "java/lang/String" 15 "java/lang/String" "coder" "B"]
def tab : Cond := tabOf yN yB 1 (some .byte) site
def P (x : Addr) (cd z : Int32) (args : Array Value) (s : State) : Prop := args = #[.ref x] ∧ Has x "java/lang/String" "coder" "B" (.int cd) s ∧ (cd = 0 ∨ cd = 1) ∧ StaticIs s "java/lang/String" "COMPACT_STRINGS" "Z" (.int z) ∧ ¬ z = 0
def E (cd : Int32) (r : Option Value) (s u : State) : Prop := XT.PureE (some (.int cd)) r s u
theorem law (l : Launch) (x : Addr) (cd z : Int32) : Law l yN 1 0 0 0 yB 1 (some .byte) site (P x cd z) (E cd) [] 0 0 := by
  refine Law.of_walk (plainFor_of_name (by decide +kernel)) (by decide +kernel) (by decide +kernel) (by decide) (fun _ _ h => by rw [h.1]; rfl) (fun _ U U' hal hh h => ⟨h.1, h.2.1.mv hal hh, h.2.2.1, h.2.2.2.1.there hal hh, h.2.2.2.2⟩) (fun r U U' V V' h1 hal h2 h => XT.PureE.mv r U U' V V' h1 hal h2 h) ?_
  intro p e s m args below meth c s₁ X0 hexec hbytes hml hret hlk hnm hown hh0 W hP
  obtain ⟨rfl, hx, hc, s1, hz⟩ := hP
  have c1 : Steps p.tables e below (s₁.setTop (entryFrame m #[.ref x] 1)) (s₁.setTop (mkF m 0 #[.val (.ref x)] [])) := entry rfl
  obtain ⟨T2, X2, q2, st2⟩ := X0.sget hexec hown (wk W (.fieldLink "java/lang/String" 38 "java/lang/String" "COMPACT_STRINGS" "Z")) s1 (fun _ _ h => by rw [hh0]; exact h) (g := (mkF m 0 #[.val (.ref x)] [])) rfl (hb hbytes d0)
  have hh2 := q2.trans hh0
  have c3 : Steps p.tables e below (s₁.setTop (entryFrame m #[.ref x] 1)) (T2.setTop (mkF m 7 #[.val (.ref x)] [.ref x])) := (c1.trans (st2 _ (Steps.refl _))).trans (by
    refine XS.ifNo X2.here hexec rfl (hb hbytes d3) rfl (i0_eq_f hz) ?_
    refine XS.aloadN X2.here hexec rfl (hb hbytes d6) rfl rfl ?_
    exact Steps.refl _)
  obtain ⟨T4, X4, q4, st4⟩ := X2.hget hexec hown (wk W (.fieldLink "java/lang/String" 15 "java/lang/String" "coder" "B")) (hx.mv X2.warmed.alike hh2) (g := (mkF m 7 #[.val (.ref x)] [.ref x])) rfl (rest := []) rfl (hb hbytes d7)
  have c5 : Steps p.tables e below (s₁.setTop (entryFrame m #[.ref x] 1)) (T4.setTop (mkF m 14 #[.val (.ref x)] [.int cd])) := (c3.trans (st4 _ (Steps.refl _))).trans (by
    refine XS.goto X4.here hexec rfl (pc0 := 10) rfl (hb hbytes d10) (by decide) rfl ?_
    exact Steps.refl _)
  exact ⟨T4, some (.int cd), _, _, _, X4, rfl, rfl, rfl, (fun h => by cases h), ⟨rfl, q4.trans hh2⟩, fun fs hl => c5.trans (X4.ireturnOut hexec hret (by rcases hc with rfl | rfl <;> rfl) (Or.inr (Or.inr (Or.inl rfl))) (hb hbytes d14) hl)⟩
end Cdr
namespace Len
def yN : MethodName := ⟨"java/lang/String", "length", "()I"⟩
abbrev yB : ByteArray := jdk_42_method_54_code
theorem d0 : decode yB 0 = .ok (.aload_n 0, 1) := by decide +kernel
theorem d1 : decode yB 1 = .ok (.getfield 9, 3) := by decide +kernel
theorem d4 : decode yB 4 = .ok (.arraylength, 1) := by decide +kernel
theorem d5 : decode yB 5 = .ok (.aload_n 0, 1) := by decide +kernel
theorem d6 : decode yB 6 = .ok (.invokevirtual 335, 3) := by decide +kernel
theorem d9 : decode yB 9 = .ok (.ishr, 1) := by decide +kernel
theorem d10 : decode yB 10 = .ok (.ireturn, 1) := by decide +kernel
def site : List Cond := [.fieldLink "java/lang/String" 9 "java/lang/String" "value" "[B", Cdr.tab] ++ virtW "java/lang/String" 335 "java/lang/String" Cdr.yN Cdr.yN
def tab : Cond := tabOf yN yB 1 (some .int) site
def P (x t : Addr) (V : Cell) (cd : Int32) (n : Nat) (f : Nat → Int32) (z : Int32) (args : Array Value) (s : State) : Prop := args = #[.ref x] ∧ Txt x t V cd n f s ∧ StaticIs s "java/lang/String" "COMPACT_STRINGS" "Z" (.int z) ∧ ¬ z = 0
def E (n : Nat) (r : Option Value) (s u : State) : Prop := XT.PureE (some (.int (Int32.ofNat n))) r s u
/-- length() of a String of n chars, in either coding -/
theorem law (l : Launch) (x t : Addr) (V : Cell) (cd : Int32) (n : Nat) (f : Nat → Int32) (z : Int32) : Law l yN 1 0 1 13 yB 1 (some .int) site (P x t V cd n f z) (E n) [] 0 0 := by
  refine Law.of_walk (plainFor_of_name (by decide +kernel)) (by decide +kernel) (by decide +kernel) (by decide) (fun _ _ h => by rw [h.1]; rfl) (fun _ U U' hal hh h => ⟨h.1, h.2.1.mv hal hh, h.2.2.1.there hal hh, h.2.2.2⟩) (fun r U U' V V' h1 hal h2 h => XT.PureE.mv r U U' V V' h1 hal h2 h) ?_
  intro p e s m args below meth c s₁ X0 hexec hbytes hml hret hlk hnm hown hh0 W hP
  obtain ⟨rfl, hx, s1, hz⟩ := hP
  have v31 := hx.2.2.2.1.2.2.2
  have c1 : Steps p.tables e below (s₁.setTop (entryFrame m #[.ref x] 1)) (s₁.setTop (mkF m 1 #[.val (.ref x)] [.ref x])) := Steps.trans (entry rfl) (by
    show Steps p.tables e below (s₁.setTop (mkF m 0 #[.val (.ref x)] [])) _
    refine XS.aloadN X0.here hexec rfl (hb hbytes d0) rfl rfl ?_
    exact Steps.refl _)
  obtain ⟨T2, X2, q2, st2⟩ := X0.hget hexec hown (wk W (.fieldLink "java/lang/String" 9 "java/lang/String" "value" "[B")) (hx.mv X0.warmed.alike hh0).2.1 (g := (mkF m 1 #[.val (.ref x)] [.ref x])) rfl (rest := []) rfl (hb hbytes d1)
  have hh2 := q2.trans hh0
  have hx2 := hx.mv X2.warmed.alike hh2
  have c3 : Steps p.tables e below (s₁.setTop (entryFrame m #[.ref x] 1)) (T2.setTop (mkF m 6 #[.val (.ref x)] [.ref x, .int (Int32.ofNat V.slots.size)])) := (c1.trans (st2 _ (Steps.refl _))).trans (by
    refine X2.alen hexec hx2.2.2.2.1 rfl rfl (hb hbytes d4) ?_
    refine XS.aloadN X2.here hexec rfl (hb hbytes d5) rfl rfl ?_
    exact Steps.refl _)
  obtain ⟨v4, T4, X4, E4, g4⟩ := X2.callV hexec (Cdr.law l x cd z) hown (wks W (virtW "java/lang/String" 335 "java/lang/String" Cdr.yN Cdr.yN)) rfl (by decide) (wk W Cdr.tab) (W := 1) (Nat.le_of_ble_eq_true rfl) (Nat.le_of_ble_eq_true rfl) (Nat.le_refl _) (Nat.le_refl _) (hx2.1.fc X2.warmed.alike) hx2.1.is (g := (mkF m 6 #[.val (.ref x)] [.ref x, .int (Int32.ofNat V.slots.size)])) rfl (by rw [hml]; rfl) c3 (argsL := []) (rest := [.int (Int32.ofNat V.slots.size)]) rfl rfl (by show 2 * 0 + (1 + 0) ≤ _; decide) (hb hbytes d6) (⟨rfl, hx2.2.2.1, hx.2.2.2.2.1.cd, s1.there X2.warmed.alike hh2, hz⟩)
  obtain ⟨rfl, q4⟩ := E4
  have c5 : Steps p.tables e below (s₁.setTop (entryFrame m #[.ref x] 1)) (T4.setTop (mkF m 10 #[.val (.ref x)] [.int (Int32.ofNat V.slots.size >>> (cd &&& 31))])) := Steps.trans g4 (by
    refine ishr X4.here hexec rfl (hb hbytes d9) rfl ?_
    exact Steps.refl _)
  rw [hx.2.2.2.2.1.len v31] at c5
  exact ⟨T4, some (.int (Int32.ofNat n)), _, _, _, X4, rfl, rfl, rfl, (fun h => by cases h), ⟨rfl, q4.trans hh2⟩, fun fs hl => c5.trans (X4.ireturnOut hexec hret rfl (Or.inl rfl) (hb hbytes d10) hl)⟩
theorem pays {l : Launch} {R : Room} {p : Program} {e : Env} {below : List Frame} {s : State} {sargs : Array Value} {len W : Nat} (x t : Addr) (V : Cell) (cd : Int32) (n : Nat) (f : Nat → Int32) (z : Int32) (htab : tab.before sargs s = true) (hfr : 2 ≤ R.frames) (hlo : W + 25 ≤ R.locals) :
    Back l R p e below s sargs yN len W (fun A₁ a₁ => A₁.cells + 0 ≤ R.cells ∧ A₁.slots + 0 ≤ R.slots ∧ P x t V cd n f z a₁ A₁.U) (fun A₁ _ v₁ B₁ => E n v₁ A₁.U B₁.U ∧ B₁.locs = A₁.locs ++ [] ∧ B₁.cells = A₁.cells + 0 ∧ B₁.slots = A₁.slots + 0) :=
  (law l x t V cd n f z).pays htab hfr (by omega)
end Len
namespace IsL
def yN : MethodName := ⟨"java/lang/String", "isLatin1", "()Z"⟩
abbrev yB : ByteArray := jdk_42_method_154_code
theorem d0 : decode yB 0 = .ok (.getstatic 38, 3) := by decide +kernel
theorem d3 : decode yB 3 = .ok (.ifCond (.eq) 14, 3) := by decide +kernel
theorem d6 : decode yB 6 = .ok (.aload_n 0, 1) := by decide +kernel
theorem d7 : decode yB 7 = .ok (.getfield 15, 3) := by decide +kernel
theorem d10 : decode yB 10 = .ok (.ifCond (.ne) 7, 3) := by decide +kernel
theorem d13 : decode yB 13 = .ok (.iconst 1, 1) := by decide +kernel
theorem d14 : decode yB 14 = .ok (.goto 4, 3) := by decide +kernel
theorem d17 : decode yB 17 = .ok (.iconst 0, 1) := by decide +kernel
theorem d18 : decode yB 18 = .ok (.ireturn, 1) := by decide +kernel
def site : List Cond := [.fieldLink "java/lang/String" 38 "java/lang/String" "COMPACT_STRINGS" "Z", .fieldLink "java/lang/String" 15 "java/lang/String" "coder" "B"]
def tab : Cond := tabOf yN yB 1 (some .boolean) site
def P (x : Addr) (cd z : Int32) (args : Array Value) (s : State) : Prop := args = #[.ref x] ∧ Has x "java/lang/String" "coder" "B" (.int cd) s ∧ (cd = 0 ∨ cd = 1) ∧ StaticIs s "java/lang/String" "COMPACT_STRINGS" "Z" (.int z) ∧ ¬ z = 0
def E (cd : Int32) (r : Option Value) (s u : State) : Prop := XT.PureE (some (.int (1 - cd))) r s u
theorem law (l : Launch) (x : Addr) (cd z : Int32) : Law l yN 1 0 0 0 yB 1 (some .boolean) site (P x cd z) (E cd) [] 0 0 := by
  refine Law.of_walk (plainFor_of_name (by decide +kernel)) (by decide +kernel) (by decide +kernel) (by decide) (fun _ _ h => by rw [h.1]; rfl) (fun _ U U' hal hh h => ⟨h.1, h.2.1.mv hal hh, h.2.2.1, h.2.2.2.1.there hal hh, h.2.2.2.2⟩) (fun r U U' V V' h1 hal h2 h => XT.PureE.mv r U U' V V' h1 hal h2 h) ?_
  intro p e s m args below meth c s₁ X0 hexec hbytes hml hret hlk hnm hown hh0 W hP
  obtain ⟨rfl, hx, hc, s1, hz⟩ := hP
  have c1 : Steps p.tables e below (s₁.setTop (entryFrame m #[.ref x] 1)) (s₁.setTop (mkF m 0 #[.val (.ref x)] [])) := entry rfl
  obtain ⟨T2, X2, q2, st2⟩ := X0.sget hexec hown (wk W (.fieldLink "java/lang/String" 38 "java/lang/String" "COMPACT_STRINGS" "Z")) s1 (fun _ _ h => by rw [hh0]; exact h) (g := (mkF m 0 #[.val (.ref x)] [])) rfl (hb hbytes d0)
  have hh2 := q2.trans hh0
  have c3 : Steps p.tables e below (s₁.setTop (entryFrame m #[.ref x] 1)) (T2.setTop (mkF m 7 #[.val (.ref x)] [.ref x])) := (c1.trans (st2 _ (Steps.refl _))).trans (by
    refine XS.ifNo X2.here hexec rfl (hb hbytes d3) rfl (i0_eq_f hz) ?_
    refine XS.aloadN X2.here hexec rfl (hb hbytes d6) rfl rfl ?_
    exact Steps.refl _)
  obtain ⟨T4, X4, q4, st4⟩ := X2.hget hexec hown (wk W (.fieldLink "java/lang/String" 15 "java/lang/String" "coder" "B")) (hx.mv X2.warmed.alike hh2) (g := (mkF m 7 #[.val (.ref x)] [.ref x])) rfl (rest := []) rfl (hb hbytes d7)
  have c5 : Steps p.tables e below (s₁.setTop (entryFrame m #[.ref x] 1)) (T4.setTop (mkF m 10 #[.val (.ref x)] [.int cd])) := c3.trans (st4 _ (Steps.refl _))
  have c6 : Steps p.tables e below (s₁.setTop (entryFrame m #[.ref x] 1)) (T4.setTop (mkF m 18 #[.val (.ref x)] [.int (1 - cd)])) := by
    rcases hc with rfl | rfl
    · exact c5.trans (by
        refine XS.ifNo X4.here hexec rfl (hb hbytes d10) rfl (i0_ne_f rfl) ?_
        refine iconstV X4.here hexec rfl 1 (hb hbytes d13) (by decide) ?_
        refine XS.goto X4.here hexec rfl (pc0 := 14) rfl (hb hbytes d14) (by decide) rfl ?_
        exact Steps.refl _)
    · exact c5.trans (by
        refine XS.ifYes X4.here hexec rfl (pc0 := 10) rfl (hb hbytes d10) rfl (i0_ne_t (by decide)) (by decide) rfl ?_
        refine iconstV X4.here hexec rfl 0 (hb hbytes d17) (by decide) ?_
        exact Steps.refl _)
  exact ⟨T4, some (.int (1 - cd)), _, _, _, X4, rfl, rfl, rfl, (fun h => by cases h), ⟨rfl, q4.trans hh2⟩, fun fs hl => c6.trans (X4.ireturnOut hexec hret (by rcases hc with rfl | rfl <;> rfl) (Or.inr (Or.inl rfl)) (hb hbytes d18) hl)⟩
end IsL
namespace LChA
def yN : MethodName := ⟨"java/lang/StringLatin1", "charAt", "([BI)C"⟩
abbrev yB : ByteArray := jdk_43_method_2_code
theorem d0 : decode yB 0 = .ok (.iload_n 1, 1) := by decide +kernel
theorem d1 : decode yB 1 = .ok (.aload_n 0, 1) := by decide +kernel
theorem d2 : decode yB 2 = .ok (.arraylength, 1) := by decide +kernel
theorem d3 : decode yB 3 = .ok (.invokestatic 9, 3) := by decide +kernel
theorem d6 : decode yB 6 = .ok (.aload_n 0, 1) := by decide +kernel
theorem d7 : decode yB 7 = .ok (.iload_n 1, 1) := by decide +kernel
theorem d8 : decode yB 8 = .ok (.baload, 1) := by decide +kernel
theorem d9 : decode yB 9 = .ok (.sipush 255, 3) := by decide +kernel
theorem d12 : decode yB 12 = .ok (.iand, 1) := by decide +kernel
theorem d13 : decode yB 13 = .ok (.i2c, 1) := by decide +kernel
theorem d14 : decode yB 14 = .ok (.ireturn, 1) := by decide +kernel
def site : List Cond := [JO.Str_checkIndex.tab] ++ staticW "java/lang/StringLatin1" 9 JO.Str_checkIndex.yN
def tab : Cond := tabOf yN yB 2 (some .char) site
def P (t : Addr) (V : Cell) (i : Nat) (u : Int32) (fm : Value) (args : Array Value) (s : State) : Prop := args = #[.ref t, .int (Int32.ofNat i)] ∧ XT.Arr .byte t V s ∧ V.slots[i]? = some (.int u) ∧ (StaticIs s "jdk/internal/util/Preconditions" "SIOOBE_FORMATTER" "Ljava/util/function/BiFunction;" fm ∧ fm.isRef = true)
def E (u : Int32) (r : Option Value) (s w : State) : Prop := XT.PureE (some (.int (chr8 u))) r s w
theorem law (l : Launch) (t : Addr) (V : Cell) (i : Nat) (u : Int32) (fm : Value) : Law l yN 2 2 2 27 yB 2 (some .char) site (P t V i u fm) (E u) [] 0 0 := by
  refine Law.of_walk (plainFor_of_name (by decide +kernel)) (by decide +kernel) (by decide +kernel) (by decide) (fun _ _ h => by rw [h.1]; rfl) (fun _ U U' hal hh h => ⟨h.1, h.2.1.mv hal hh, h.2.2.1, h.2.2.2.1.there hal hh, h.2.2.2.2⟩) (fun r U U' V V' h1 hal h2 h => XT.PureE.mv r U U' V V' h1 hal h2 h) ?_
  intro p e s m args below meth c s₁ X0 hexec hbytes hml hret hlk hnm hown hh0 W hP
  obtain ⟨rfl, hV, hu, s1, rf⟩ := hP
  have v31 := hV.2.2.2
  have hi : i < V.slots.size := (Array.getElem?_eq_some_iff.mp hu).1
  have c1 : Steps p.tables e below (s₁.setTop (entryFrame m #[.ref t, .int (Int32.ofNat i)] 2)) (s₁.setTop (mkF m 0 #[.val (.ref t), .val (.int (Int32.ofNat i))] [])) := entry rfl
  have c2 : Steps p.tables e below (s₁.setTop (entryFrame m #[.ref t, .int (Int32.ofNat i)] 2)) (s₁.setTop (mkF m 3 #[.val (.ref t), .val (.int (Int32.ofNat i))] [.int (Int32.ofNat V.slots.size), .int (Int32.ofNat i)])) := c1.trans (by
    refine XS.iloadN X0.here hexec rfl (hb hbytes d0) rfl ?_
    refine XS.aloadN X0.here hexec rfl (hb hbytes d1) rfl rfl ?_
    refine X0.alen hexec (hV.mv X0.warmed.alike hh0) rfl rfl (hb hbytes d2) ?_
    exact Steps.refl _)
  obtain ⟨v3, T3, X3, E3, g3⟩ := X0.callS hexec (JO.Str_checkIndex.law l (Int32.ofNat i) (Int32.ofNat V.slots.size) fm) hown (wks W (staticW "java/lang/StringLatin1" 9 JO.Str_checkIndex.yN)) (wk W JO.Str_checkIndex.tab) (W := 0) (Nat.le_of_ble_eq_true rfl) (Nat.le_of_ble_eq_true rfl) (Nat.le_refl _) (Nat.le_refl _) (g := (mkF m 3 #[.val (.ref t), .val (.int (Int32.ofNat i))] [.int (Int32.ofNat V.slots.size), .int (Int32.ofNat i)])) rfl (by rw [hml]; rfl) c2 (argsL := [.int (Int32.ofNat i), .int (Int32.ofNat V.slots.size)]) (rest := []) rfl rfl (by show 2 * 0 + 0 ≤ _; decide) (hb hbytes d3) (⟨rfl, rf, s1.there X0.warmed.alike hh0, Int32.ofNat_not_neg (by omega), lt32 v31 hi⟩)
  obtain ⟨rfl, q3⟩ := E3
  have hh3 := q3.trans hh0
  have c4 : Steps p.tables e below (s₁.setTop (entryFrame m #[.ref t, .int (Int32.ofNat i)] 2)) (T3.setTop (mkF m 14 #[.val (.ref t), .val (.int (Int32.ofNat i))] [.int (chr8 u)])) := Steps.trans g3 (by
    refine XS.aloadN X3.here hexec rfl (hb hbytes d6) rfl rfl ?_
    refine XS.iloadN X3.here hexec rfl (hb hbytes d7) rfl ?_
    refine X3.aget hexec (hV.mv X3.warmed.alike hh3) rfl hu rfl rfl (hb hbytes d8) ?_
    refine sipushV X3.here hexec rfl 255 (hb hbytes d9) (by decide) ?_
    refine XS.iand X3.here hexec rfl (hb hbytes d12) rfl ?_
    refine i2c X3.here hexec rfl (hb hbytes d13) rfl ?_
    exact Steps.refl _)
  exact ⟨T3, some (.int (chr8 u)), _, _, _, X3, rfl, rfl, rfl, (fun h => by cases h), ⟨rfl, hh3⟩, fun fs hl => c4.trans (X3.ireturnOut hexec hret (narrow_c _) (Or.inr (Or.inr (Or.inr (Or.inl rfl)))) (hb hbytes d14) hl)⟩
end LChA
end StrChars
namespace StrChars.Road
open Jvm Sem ClassFile Op Lib Jvm.Stand Jvm.Free Jvm.Free.XT
open Jvm.Lib.Cold (StaticIs)
theorem consq {a : Array Value} {s : State} {c : Jvm.Cond} {L : List Jvm.Cond} (h0 : c.before a s = true) (h : ∀ w ∈ L, w.before a s = true) : ∀ w ∈ c :: L, w.before a s = true := fun w hw => (List.mem_cons.mp hw).elim (fun e => e ▸ h0) (h w)
/-- the words of String.length(), either coding -/
abbrev wordsLen : List Jvm.Cond := [.code Len.yN Len.yB 1 (some .int), .initialized ST, .fieldLink ST 9 ST "value" "[B", .fieldLink ST 38 ST "COMPACT_STRINGS" "Z", .fieldLink ST 15 ST "coder" "B", .code Cdr.yN Cdr.yB 1 (some .byte), .methodLink ST 335 Cdr.yN, .declares Cdr.yN, .selects ST Cdr.yN Cdr.yN, .instanceMethod Cdr.yN]
theorem tabLen_of {a : Array Value} {s : State} (h : ∀ w ∈ wordsLen, w.before a s = true) : Len.tab.before a s = true := by
  have hc : Cdr.tab.before a s = true := unparts (wk h (.code Cdr.yN Cdr.yB 1 (some .byte))) (wks h (.initialized Cdr.yN.cls :: Cdr.site))
  have q := consq hc h
  exact unparts (wk q (.code Len.yN Len.yB 1 (some .int))) (wks q (.initialized Len.yN.cls :: Len.site))
theorem movedLen {Z s : State} {a0 args : Array Value} (hZ : Z.Warmed39 s.vm) (hw : ∀ d ∈ wordsLen, d.before a0 Z = true) : ∀ d ∈ wordsLen, d.before args s = true := fun d hd => by
  have q := hw d hd
  have t : ∀ d ∈ wordsLen, d = .arrayClass .byte ∨ (d.onTables && d.keepsFace) = true := by decide +kernel
  rcases t d hd with rfl | t
  · exact RoadKit.mvA hZ q
  · exact RoadKit.mv hZ q t
/-- the bytes of the chars cs, low before high -/
def wideBytes : List Int32 → List Value
  | [] => []
  | c :: cs => .int (lo8 c) :: .int (hi8 c) :: wideBytes cs
theorem wide_lo (d : Value) : ∀ (cs : List Int32) (j : Nat), j < cs.length → (wideBytes cs).getD (2 * j) d = .int (lo8 (cs.getD j 0))
  | [], j, h => absurd h (Nat.not_lt_zero j)
  | c :: cs, 0, _ => rfl
  | c :: cs, j + 1, h => by
    have q := wide_lo d cs j (by simpa using h)
    rw [show 2 * (j + 1) = 2 * j + 1 + 1 from by omega]
    simpa [wideBytes] using q
theorem wide_hi (d : Value) : ∀ (cs : List Int32) (j : Nat), j < cs.length → (wideBytes cs).getD (2 * j + 1) d = .int (hi8 (cs.getD j 0))
  | [], j, h => absurd h (Nat.not_lt_zero j)
  | c :: cs, 0, _ => rfl
  | c :: cs, j + 1, h => by
    have q := wide_hi d cs j (by simpa using h)
    rw [show 2 * (j + 1) + 1 = 2 * j + 1 + 1 + 1 from by omega]
    simpa [wideBytes] using q
theorem low_at (d : Value) (cs : List Int32) (j : Nat) (h : j < cs.length) : (cs.map fun c => Value.int (lo8 c)).getD j d = .int (lo8 (cs.getD j 0)) := by
  simp [List.getD_eq_getElem?_getD, h]
/-- an array of N2 bytes vs codes the chars cs by the coder cd -/
def CodA (cs : List Int32) (cd N2 : Int32) (vs : List Value) : Prop := (cd = 0 ∧ N2 = Int32.ofNat cs.length ∧ vs = (cs.map fun c => Value.int (lo8 c)) ∧ ∀ c ∈ cs, ¬ 255 < c) ∨ (cd = 1 ∧ N2 = Int32.ofNat (2 * cs.length) ∧ vs = wideBytes cs ∧ ∃ c ∈ cs, 255 < c)
theorem CodA.cod {cs : List Int32} {cd N2 : Int32} {vs : List Value} {V : Cell} (h : CodA cs cd N2 vs) (hn : 2 * cs.length < 2 ^ 31) (hs : V.slots.size = N2.toNatClampNeg) (hv : RoadKit.Has V vs (.int 0)) : Cod cd cs.length (fun j => cs.getD j 0) V := by
  rcases h with ⟨rfl, rfl, rfl, h⟩ | ⟨rfl, rfl, rfl, c, hc, hw⟩
  · rw [n32 (by omega)] at hs
    exact Or.inl ⟨rfl, hs, fun j hj => ⟨by rw [hv j (by omega), low_at _ _ _ hj], by
      have e : cs.getD j 0 = cs[j] := by simp [List.getD_eq_getElem?_getD, hj]
      show ¬ 255 < cs.getD j 0
      rw [e]; exact h _ (List.getElem_mem _)⟩⟩
  · rw [n32 (by omega)] at hs
    obtain ⟨j, hj, rfl⟩ := List.getElem_of_mem hc
    exact Or.inr ⟨rfl, hs, fun j hj => ⟨by rw [hv _ (by omega), wide_lo _ _ _ hj], by rw [hv _ (by omega), wide_hi _ _ _ hj]⟩, j, hj, by
      have e : cs.getD j 0 = cs[j] := by simp [List.getD_eq_getElem?_getD, hj]
      show 255 < cs.getD j 0
      rw [e]; exact hw⟩
/-- an object of exactly java/lang/String, its two fields found: as the laws ask it -/
theorem strObj {Z U : State} {a0 : Array Value} {kI : Nat} (wi : (Jvm.Cond.instantiable ST kI).before a0 Z = true) (al : Z.vm.Alike U.vm) {x : Addr} {v0 c0 : Value} (E : RoadKit.Exa Z U.heap x ST) (V : RoadKit.Fld Z U.heap x ST "value" "[B" v0) (C : RoadKit.Fld Z U.heap x ST "coder" "B" c0) :
    ∃ (D : Cell) (fV fC : Field), Blank ST x D U ∧ Found ST "value" "[B" fV U ∧ Found ST "coder" "B" fC U ∧ D.slots[fV.slot]? = some v0 ∧ D.slots[fC.slot]? = some c0 ∧ RoadKit.slotOf Z ST "value" "[B" = fV.slot ∧ RoadKit.slotOf Z ST "coder" "B" = fC.slot := by
  obtain ⟨D, cfV, kV, iV, fV, hD, gV, stV, knV, obV, asV, slV⟩ := V
  obtain ⟨D', cfC, kC, iC, fC, hD', gC, stC, -, -, asC, slC⟩ := C
  cases hD.symm.trans hD'
  obtain ⟨D2, kD, e1, e2, e3, e4, e5⟩ := E
  cases hD.symm.trans e1
  obtain ⟨c2, k2, i1, i2, i3, -⟩ := Cond.instantiable_spec wi
  cases e2.symm.trans i1
  cases e3.symm.trans i2
  obtain ⟨kU, u1, u2⟩ := al.2.2 _ _ e3
  exact ⟨D, fV, fC, ⟨hD, ⟨knV, fun q hq => by rw [hq] at obV; cases obV⟩, by rw [al.findClass]; exact e2, kU, u1, by rw [u2]; exact i3, by rw [u2]; exact e5 i3⟩, ⟨SBG.found_only al ⟨cfV, kV, iV, gV⟩, stV⟩, ⟨SBG.found_only al ⟨cfC, kC, iC, gC⟩, stC⟩, slV, slC, by simp [RoadKit.slotOf, gV], by simp [RoadKit.slotOf, gC]⟩
theorem sta_is {Z U : State} (al : Z.vm.Alike U.vm) {C n d : String} {v : Value} (S : RoadKit.Sta Z U.heap C n d v) : StaticIs U C n d v := by
  obtain ⟨cfS, iS, kS, fS, st, cS, t1, t2, t3, t4, t5, t6, t7⟩ := S
  exact StaticIs.there (s := { Z with heap := U.heap }) ⟨cfS, iS, kS, fS, st, cS, t1, t2, t3, t4, t5, (fun q => by rw [q] at t6; cases t6), t7⟩ al rfl
/-- **length() OF SUCH A STRING** -/
theorem lenW {p : Program} {l : Launch} {e : Env} {R : Room} {s : State} {args : Array Value} {below : List Frame} {len W : Nat} {Z : State} {a0 : Array Value} {h : Heap} (hZ : Z.Warmed39 s.vm) (hw : ∀ d ∈ wordsLen, d.before a0 Z = true) {kI : Nat} (wi : (Jvm.Cond.instantiable ST kI).before a0 Z = true)
    {x t : Addr} {kb : ClassId} {cs : List Int32} {cd N2 z : Int32} {vs : List Value} (E : RoadKit.Exa Z h x ST) (V : RoadKit.Fld Z h x ST "value" "[B" (.ref t)) (C : RoadKit.Fld Z h x ST "coder" "B" (.int cd)) (K : RoadKit.Arv Z h t kb .byte N2 vs (.int 0)) (hc : CodA cs cd N2 vs) (hb : ∀ c ∈ cs, ¬ c < 0 ∧ ¬ (65535 : Int32) < c)
    (S : RoadKit.Sta Z h ST "COMPACT_STRINGS" "Z" (.int z)) (hz : ¬ z = 0) (l2 : cs.length ≤ 4000) (hfr : 2 ≤ R.frames) (hlo : W + 25 ≤ R.locals) :
    Back l R p e below s args (⟨"java/lang/String", "length", "()I"⟩ : MethodName) len W (fun P a => a = #[.ref x] ∧ P.U.heap = h ∧ P.cells + 0 ≤ R.cells ∧ P.slots + 0 ≤ R.slots)
      (fun P _ v B => ∃ L, (v = some (.int (Int32.ofNat cs.length)) ∧ L = [] ∧ B.U.heap = h) ∧ B.locs = P.locs ++ L ∧ B.cells = P.cells + 0 ∧ B.slots = P.slots + 0) := by
  obtain ⟨A, K1, K2, K3, K4, K5, K6⟩ := K
  have hcod := hc.cod (by omega) K3 K5
  intro m meth c P g ig mk a X hg hsize hdg hW hn hp'
  obtain ⟨rfl, rfl, r1, r2⟩ := hp'
  have al : Z.vm.Alike P.U.vm := hZ.alike.trans X.warmed.alike
  obtain ⟨D, fV, fC, hB, F1, F2, g1, g2, -, -⟩ := strObj wi al E V C
  have hx : Txt x t A cd cs.length (fun j => cs.getD j 0) P.U := ⟨⟨_, hB.2.2.1, D, hB.1, rfl, by cases q : D.vm <;> first | rfl | exact absurd q (hB.2.1.2 _)⟩, Has.of hB F1 g1, Has.of hB F2 g2, ⟨K1.1, State.isArrayOf_alike al K1.2.1, K1.2.2, by rcases hcod with ⟨-, q, -⟩ | ⟨-, q, -⟩ <;> omega⟩, hcod, fun j hj => by
    have e : cs.getD j 0 = cs[j] := by simp [List.getD_eq_getElem?_getD, hj]
    show ¬ cs.getD j 0 < 0 ∧ ¬ 65535 < cs.getD j 0
    rw [e]; exact hb _ (List.getElem_mem _)⟩
  obtain ⟨v, B, X', ⟨⟨hv, hh⟩, hl, hk, hs⟩, st⟩ := Len.pays x t A cd cs.length (fun j => cs.getD j 0) z (tabLen_of (movedLen hZ hw)) hfr hlo m meth c P g ig mk _ X hg hsize hdg hW hn ⟨r1, r2, rfl, hx, sta_is al S, hz⟩
  exact ⟨v, B, X', ⟨[], ⟨hv, rfl, hh⟩, hl, hk, hs⟩, st⟩
end StrChars.Road
namespace StrChars.Road
open Jvm Sem ClassFile Op Lib Jvm.Stand Jvm.Free Jvm.Free.XT
open Jvm.Lib.Cold (StaticIs)
/-- the road's facts of a String, as the laws ask it -/
theorem txt_of {Z U : State} {a0 : Array Value} {kI : Nat} (wi : (Jvm.Cond.instantiable ST kI).before a0 Z = true) (al : Z.vm.Alike U.vm) {x t : Addr} {kb : ClassId} {cs : List Int32} {cd N2 : Int32} {vs : List Value} (E : RoadKit.Exa Z U.heap x ST) (V : RoadKit.Fld Z U.heap x ST "value" "[B" (.ref t)) (C : RoadKit.Fld Z U.heap x ST "coder" "B" (.int cd)) (K : RoadKit.Arv Z U.heap t kb .byte N2 vs (.int 0)) (hc : CodA cs cd N2 vs) (hb : ∀ c ∈ cs, ¬ c < 0 ∧ ¬ (65535 : Int32) < c) (l2 : cs.length ≤ 4000) :
    ∃ A, Txt x t A cd cs.length (fun j => cs.getD j 0) U := by
  obtain ⟨A, K1, K2, K3, K4, K5, K6⟩ := K
  have hcod := hc.cod (by omega) K3 K5
  obtain ⟨D, fV, fC, hB, F1, F2, g1, g2, -, -⟩ := strObj wi al E V C
  exact ⟨A, ⟨_, hB.2.2.1, D, hB.1, rfl, by cases q : D.vm <;> first | rfl | exact absurd q (hB.2.1.2 _)⟩, Has.of hB F1 g1, Has.of hB F2 g2, ⟨K1.1, State.isArrayOf_alike al K1.2.1, K1.2.2, by rcases hcod with ⟨-, q, -⟩ | ⟨-, q, -⟩ <;> omega⟩, hcod, fun j hj => by
    have e : cs.getD j 0 = cs[j] := by simp [List.getD_eq_getElem?_getD, hj]
    show ¬ cs.getD j 0 < 0 ∧ ¬ 65535 < cs.getD j 0
    rw [e]; exact hb _ (List.getElem_mem _)⟩
end StrChars.Road
namespace StrChars
open Jvm Sem ClassFile Op Lib Jvm.Stand Jvm.Free.XT Jvm.Free.ALB Jvm.Free.JM Jvm.Free
open Jvm.Lib.Cold (StaticIs)
namespace ChN
def yN : MethodName := ⟨"java/lang/String", "charAt", "(I)C"⟩
abbrev yB : ByteArray := jdk_42_method_56_code
theorem d0 : decode yB 0 = .ok (.aload_n 0, 1) := by decide +kernel
theorem d1 : decode yB 1 = .ok (.invokevirtual 492, 3) := by decide +kernel
theorem d4 : decode yB 4 = .ok (.ifCond (.eq) 12, 3) := by decide +kernel
theorem d7 : decode yB 7 = .ok (.aload_n 0, 1) := by decide +kernel
theorem d8 : decode yB 8 = .ok (.getfield 9, 3) := by decide +kernel
theorem d11 : decode yB 11 = .ok (.iload_n 1, 1) := by decide +kernel
theorem d12 : decode yB 12 = .ok (.invokestatic 495, 3) := by decide +kernel
theorem d15 : decode yB 15 = .ok (.ireturn, 1) := by decide +kernel
def site : List Cond := [.fieldLink "java/lang/String" 9 "java/lang/String" "value" "[B", IsL.tab, LChA.tab] ++ virtW "java/lang/String" 492 "java/lang/String" IsL.yN IsL.yN ++ staticW "java/lang/String" 495 LChA.yN
def tab : Cond := tabOf yN yB 2 (some .char) site
def P (x t : Addr) (V : Cell) (n : Nat) (f : Nat → Int32) (z : Int32) (fm : Value) (i : Nat) (args : Array Value) (s : State) : Prop := args = #[.ref x, .int (Int32.ofNat i)] ∧ Txt x t V 0 n f s ∧ i < n ∧ StaticIs s "java/lang/String" "COMPACT_STRINGS" "Z" (.int z) ∧ ¬ z = 0 ∧ StaticIs s "jdk/internal/util/Preconditions" "SIOOBE_FORMATTER" "Ljava/util/function/BiFunction;" fm ∧ fm.isRef = true
def E (f : Nat → Int32) (i : Nat) (r : Option Value) (s u : State) : Prop := XT.PureE (some (.int (f i))) r s u
/-- charAt(i) of a Latin-1 String of n chars, i < n: f i -/
theorem law (l : Launch) (x t : Addr) (V : Cell) (n : Nat) (f : Nat → Int32) (z : Int32) (fm : Value) (i : Nat) : Law l yN 2 1 3 40 yB 2 (some .char) site (P x t V n f z fm i) (E f i) [] 0 0 := by
  refine Law.of_walk (plainFor_of_name (by decide +kernel)) (by decide +kernel) (by decide +kernel) (by decide) (fun _ _ h => by rw [h.1]; rfl) (fun _ U U' hal hh h => ⟨h.1, h.2.1.mv hal hh, h.2.2.1, h.2.2.2.1.there hal hh, h.2.2.2.2.1, h.2.2.2.2.2.1.there hal hh, h.2.2.2.2.2.2⟩) (fun r U U' V V' h1 hal h2 h => XT.PureE.mv r U U' V V' h1 hal h2 h) ?_
  intro p e s m args below meth c s₁ X0 hexec hbytes hml hret hlk hnm hown hh0 W hP
  obtain ⟨rfl, hx, hi, s1, hz, s3, rf⟩ := hP
  have v31 := hx.2.2.2.1.2.2.2
  have hr := hx.2.2.2.2.2 i hi
  have hx0 := hx.mv X0.warmed.alike hh0
  have c1 : Steps p.tables e below (s₁.setTop (entryFrame m #[.ref x, .int (Int32.ofNat i)] 2)) (s₁.setTop (mkF m 1 #[.val (.ref x), .val (.int (Int32.ofNat i))] [.ref x])) := Steps.trans (entry rfl) (by
    show Steps p.tables e below (s₁.setTop (mkF m 0 #[.val (.ref x), .val (.int (Int32.ofNat i))] [])) _
    refine XS.aloadN X0.here hexec rfl (hb hbytes d0) rfl rfl ?_
    exact Steps.refl _)
  obtain ⟨v2, T2, X2, E2, g2⟩ := X0.callV hexec (IsL.law l x 0 z) hown (wks W (virtW "java/lang/String" 492 "java/lang/String" IsL.yN IsL.yN)) rfl (by decide) (wk W IsL.tab) (W := 0) (Nat.le_of_ble_eq_true rfl) (Nat.le_of_ble_eq_true rfl) (Nat.le_refl _) (Nat.le_refl _) (hx0.1.fc X0.warmed.alike) hx0.1.is (g := (mkF m 1 #[.val (.ref x), .val (.int (Int32.ofNat i))] [.ref x])) rfl (by rw [hml]; rfl) c1 (argsL := []) (rest := []) rfl rfl (by show 2 * 0 + 0 ≤ _; decide) (hb hbytes d1) (⟨rfl, hx0.2.2.1, hx.2.2.2.2.1.cd, s1.there X0.warmed.alike hh0, hz⟩)
  obtain ⟨rfl, q2⟩ := E2
  have hh2 := q2.trans hh0
  have hx2 := hx.mv X2.warmed.alike hh2
  obtain ⟨-, k1, k2⟩ | ⟨k0, -⟩ := hx.2.2.2.2.1
  · have c3 : Steps p.tables e below (s₁.setTop (entryFrame m #[.ref x, .int (Int32.ofNat i)] 2)) (T2.setTop (mkF m 8 #[.val (.ref x), .val (.int (Int32.ofNat i))] [.ref x])) := Steps.trans g2 (by
      refine XS.ifNo X2.here hexec rfl (hb hbytes d4) rfl (i0_eq_f (by decide)) ?_
      refine XS.aloadN X2.here hexec rfl (hb hbytes d7) rfl rfl ?_
      exact Steps.refl _)
    obtain ⟨T4, X4, q4, st4⟩ := X2.hget hexec hown (wk W (.fieldLink "java/lang/String" 9 "java/lang/String" "value" "[B")) hx2.2.1 (g := (mkF m 8 #[.val (.ref x), .val (.int (Int32.ofNat i))] [.ref x])) rfl (rest := []) rfl (hb hbytes d8)
    have hh4 := q4.trans hh2
    have c5 : Steps p.tables e below (s₁.setTop (entryFrame m #[.ref x, .int (Int32.ofNat i)] 2)) (T4.setTop (mkF m 12 #[.val (.ref x), .val (.int (Int32.ofNat i))] [.int (Int32.ofNat i), .ref t])) := (c3.trans (st4 _ (Steps.refl _))).trans (by
      refine XS.iloadN X4.here hexec rfl (hb hbytes d11) rfl ?_
      exact Steps.refl _)
    obtain ⟨v6, T6, X6, E6, g6⟩ := X4.callS hexec (LChA.law l t V i (lo8 (f i)) fm) hown (wks W (staticW "java/lang/String" 495 LChA.yN)) (wk W LChA.tab) (W := 0) (Nat.le_of_ble_eq_true rfl) (Nat.le_of_ble_eq_true rfl) (Nat.le_refl _) (Nat.le_refl _) (g := (mkF m 12 #[.val (.ref x), .val (.int (Int32.ofNat i))] [.int (Int32.ofNat i), .ref t])) rfl (by rw [hml]; rfl) c5 (argsL := [.ref t, .int (Int32.ofNat i)]) (rest := []) rfl rfl (by show 2 * 0 + 0 ≤ _; decide) (hb hbytes d12) (⟨rfl, hx.2.2.2.1.mv X4.warmed.alike hh4, (k2 i hi).1, s3.there X4.warmed.alike hh4, rf⟩)
    obtain ⟨rfl, q6⟩ := E6
    rw [chr8_lo8 hr.1 (k2 i hi).2] at g6
    exact ⟨T6, some (.int (f i)), _, _, _, X6, rfl, rfl, rfl, (fun h => by cases h), ⟨rfl, q6.trans hh4⟩, fun fs hl => Steps.trans g6 (X6.ireturnOut hexec hret (narrow_ch hr.1 hr.2) (Or.inr (Or.inr (Or.inr (Or.inl rfl)))) (hb hbytes d15) hl)⟩
  · exact absurd k0 (by decide)
theorem pays {l : Launch} {R : Room} {p : Program} {e : Env} {below : List Frame} {s : State} {sargs : Array Value} {len W : Nat} (x t : Addr) (V : Cell) (n : Nat) (f : Nat → Int32) (z : Int32) (fm : Value) (i : Nat) (htab : tab.before sargs s = true) (hfr : 4 ≤ R.frames) (hlo : W + 53 ≤ R.locals) :
    Back l R p e below s sargs yN len W (fun A₁ a₁ => A₁.cells + 0 ≤ R.cells ∧ A₁.slots + 0 ≤ R.slots ∧ P x t V n f z fm i a₁ A₁.U) (fun A₁ _ v₁ B₁ => E f i v₁ A₁.U B₁.U ∧ B₁.locs = A₁.locs ++ [] ∧ B₁.cells = A₁.cells + 0 ∧ B₁.slots = A₁.slots + 0) :=
  (law l x t V n f z fm i).pays htab hfr (by omega)
end ChN
end StrChars
namespace StrChars.Road
open Jvm Sem ClassFile Op Lib Jvm.Stand Jvm.Free Jvm.Free.XT
open Jvm.Lib.Cold (StaticIs)
/-- the words of String.charAt(int), the Latin-1 road alone -/
abbrev wordsChN : List Jvm.Cond := [.code ChN.yN ChN.yB 2 (some .char), .initialized ST, .fieldLink ST 9 ST "value" "[B", .fieldLink ST 38 ST "COMPACT_STRINGS" "Z", .fieldLink ST 15 ST "coder" "B", .code IsL.yN IsL.yB 1 (some .boolean), .methodLink ST 492 IsL.yN, .declares IsL.yN, .selects ST IsL.yN IsL.yN, .instanceMethod IsL.yN,
  .methodLink ST 495 LChA.yN, .static LChA.yN, .code LChA.yN LChA.yB 2 (some .char), .initialized "java/lang/StringLatin1", .methodLink "java/lang/StringLatin1" 9 JO.Str_checkIndex.yN, .static JO.Str_checkIndex.yN, .code JO.Str_checkIndex.yN JO.Str_checkIndex.yB 2 none,
  .fieldLink ST 1053 "jdk/internal/util/Preconditions" "SIOOBE_FORMATTER" "Ljava/util/function/BiFunction;", .methodLink ST 1059 JC.PreCheck.yN, .static JC.PreCheck.yN, .code JC.PreCheck.yN JC.PreCheck.yB 3 (some .int), .initialized "jdk/internal/util/Preconditions"]
theorem tabChN_of {a : Array Value} {s : State} (h : ∀ w ∈ wordsChN, w.before a s = true) : ChN.tab.before a s = true := by
  have hp : JC.PreCheck.tab.before a s = true := unparts (wk h (.code JC.PreCheck.yN JC.PreCheck.yB 3 (some .int))) (wks h (.initialized JC.PreCheck.yN.cls :: JC.PreCheck.site))
  have qk := consq hp h
  have hk : JO.Str_checkIndex.tab.before a s = true := unparts (wk qk (.code JO.Str_checkIndex.yN JO.Str_checkIndex.yB 2 none)) (wks qk (.initialized JO.Str_checkIndex.yN.cls :: JO.Str_checkIndex.site))
  have ql := consq hk h
  have hl : LChA.tab.before a s = true := unparts (wk ql (.code LChA.yN LChA.yB 2 (some .char))) (wks ql (.initialized LChA.yN.cls :: LChA.site))
  have hi : IsL.tab.before a s = true := unparts (wk h (.code IsL.yN IsL.yB 1 (some .boolean))) (wks h (.initialized IsL.yN.cls :: IsL.site))
  have q := consq hi (consq hl h)
  exact unparts (wk q (.code ChN.yN ChN.yB 2 (some .char))) (wks q (.initialized ChN.yN.cls :: ChN.site))
theorem movedChN {Z s : State} {a0 args : Array Value} (hZ : Z.Warmed39 s.vm) (hw : ∀ d ∈ wordsChN, d.before a0 Z = true) : ∀ d ∈ wordsChN, d.before args s = true := fun d hd => by
  have t : ∀ d ∈ wordsChN, (d.onTables && d.keepsFace) = true := by decide +kernel
  exact RoadKit.mv hZ (hw d hd) (t d hd)
/-- **charAt(i) OF A LATIN-1 STRING**, i < n: the char -/
theorem chN {p : Program} {l : Launch} {e : Env} {R : Room} {s : State} {args : Array Value} {below : List Frame} {len W : Nat} {Z : State} {a0 : Array Value} {h : Heap} (hZ : Z.Warmed39 s.vm) (hw : ∀ d ∈ wordsChN, d.before a0 Z = true) {kI : Nat} (wi : (Jvm.Cond.instantiable ST kI).before a0 Z = true)
    {x t : Addr} {kb : ClassId} {cs : List Int32} {N2 z : Int32} {vs : List Value} {fm : Value} {i : Nat} {j : Int32} (E : RoadKit.Exa Z h x ST) (V : RoadKit.Fld Z h x ST "value" "[B" (.ref t)) (C : RoadKit.Fld Z h x ST "coder" "B" (.int 0)) (K : RoadKit.Arv Z h t kb .byte N2 vs (.int 0)) (hc : CodA cs 0 N2 vs) (hb : ∀ c ∈ cs, ¬ c < 0 ∧ ¬ (65535 : Int32) < c)
    (S : RoadKit.Sta Z h ST "COMPACT_STRINGS" "Z" (.int z)) (hz : ¬ z = 0) (F : RoadKit.Sta Z h "jdk/internal/util/Preconditions" "SIOOBE_FORMATTER" "Ljava/util/function/BiFunction;" fm) (rf : fm.isRef = true) (l2 : cs.length ≤ 4000) (hi : i < cs.length) (hj : j = Int32.ofNat i) (hfr : 4 ≤ R.frames) (hlo : W + 53 ≤ R.locals) :
    Back l R p e below s args (⟨"java/lang/String", "charAt", "(I)C"⟩ : MethodName) len W (fun P a => a = #[.ref x, .int j] ∧ P.U.heap = h ∧ P.cells + 0 ≤ R.cells ∧ P.slots + 0 ≤ R.slots)
      (fun P _ v B => ∃ L, (v = some (.int (cs.getD i 0)) ∧ L = [] ∧ B.U.heap = h) ∧ B.locs = P.locs ++ L ∧ B.cells = P.cells + 0 ∧ B.slots = P.slots + 0) := by
  subst hj
  intro m meth c P g ig mk a X hg hsize hdg hW hn hp'
  obtain ⟨rfl, rfl, r1, r2⟩ := hp'
  have al : Z.vm.Alike P.U.vm := hZ.alike.trans X.warmed.alike
  obtain ⟨A, hx⟩ := txt_of wi al E V C K hc hb l2
  obtain ⟨v, B, X', ⟨⟨hv, hh⟩, hl, hk, hs⟩, st⟩ := ChN.pays x t A cs.length (fun j => cs.getD j 0) z fm i (tabChN_of (movedChN hZ hw)) hfr hlo m meth c P g ig mk _ X hg hsize hdg hW hn ⟨r1, r2, rfl, hx, hi, sta_is al S, hz, sta_is al F, rf⟩
  exact ⟨v, B, X', ⟨[], ⟨hv, rfl, hh⟩, hl, hk, hs⟩, st⟩
/-- what backV says of its String, as the contracts of this text ask it: cs's low bytes, coder 0 -/
theorem codOf {cs : List Int32} {n : Nat} (hn : cs.length = n) (hb : ∀ c ∈ cs, ¬ 255 < c) : CodA cs 0 (Int32.ofNat n) ((cs.map lo8).map Value.int) := Or.inl ⟨rfl, by rw [hn], by simp [List.map_map, Function.comp_def], hb⟩
end StrChars.Road
end Jvm.Pilot.@@N@@
namespace Jvm.Pilot.@@N@@
open Jvm Jvm.ClassFile Sem Op Lib Jvm.Free Jvm.Stand Jvm.LawKit Jvm.RoadKit Bundle Jvm.Own Jvm.Pilot.@@N@@.Jvm.D
theorem wd_0 {a0 : Array Value} {Z : State} (hw : ∀ d ∈ tables_1, d.before a0 Z = true) : (Jvm.Cond.methodLink "com/example/sigyn/sigyn/sip/SipScannerAtEndPinLaw" (7 : Nat) ({ cls := "com/example/sigyn/sigyn/sip/SipScannerAtEndPinLaw", name := "draw", desc := "(I)C" } : Jvm.MethodName)).before a0 Z = true := hw _ (List.mem_of_getElem? (i := 0) rfl)
theorem wd_1 {a0 : Array Value} {Z : State} (hw : ∀ d ∈ tables_1, d.before a0 Z = true) : (Jvm.Cond.static ({ cls := "com/example/sigyn/sigyn/sip/SipScannerAtEndPinLaw", name := "draw", desc := "(I)C" } : Jvm.MethodName)).before a0 Z = true := hw _ (List.mem_of_getElem? (i := 1) rfl)
theorem wd_2 {a0 : Array Value} {Z : State} (hw : ∀ d ∈ tables_1, d.before a0 Z = true) : (Jvm.Cond.initialized "com/example/sigyn/sigyn/sip/SipScannerAtEndPinLaw").before a0 Z = true := hw _ (List.mem_of_getElem? (i := 2) rfl)
theorem wd_3 {a0 : Array Value} {Z : State} (hw : ∀ d ∈ tables_1, d.before a0 Z = true) : (Jvm.Cond.code ({ cls := "com/example/sigyn/sigyn/sip/SipScannerAtEndPinLaw", name := "draw", desc := "(I)C" } : Jvm.MethodName) method_2_code (2 : Nat) (Option.some Jvm.ClassFile.FieldType.char)).before a0 Z = true := hw _ (List.mem_of_getElem? (i := 3) rfl)
theorem wd_4 {a0 : Array Value} {Z : State} (hw : ∀ d ∈ tables_1, d.before a0 Z = true) : (Jvm.Cond.arrayClass Jvm.ClassFile.FieldType.char).before a0 Z = true := hw _ (List.mem_of_getElem? (i := 4) rfl)
theorem wd_5 {a0 : Array Value} {Z : State} (hw : ∀ d ∈ tables_1, d.before a0 Z = true) : (Jvm.Cond.classLink "com/example/sigyn/sigyn/sip/SipScannerAtEndPinLaw" (13 : Nat) "java/lang/String").before a0 Z = true := hw _ (List.mem_of_getElem? (i := 5) rfl)
theorem wd_6 {a0 : Array Value} {Z : State} (hw : ∀ d ∈ tables_1, d.before a0 Z = true) : (Jvm.Cond.instantiable "java/lang/String" (4 : Nat)).before a0 Z = true := hw _ (List.mem_of_getElem? (i := 6) rfl)
theorem wd_7 {a0 : Array Value} {Z : State} (hw : ∀ d ∈ tables_1, d.before a0 Z = true) : (Jvm.Cond.initialized "java/lang/String").before a0 Z = true := hw _ (List.mem_of_getElem? (i := 7) rfl)
theorem wd_8 {a0 : Array Value} {Z : State} (hw : ∀ d ∈ tables_1, d.before a0 Z = true) : (Jvm.Cond.methodLink "com/example/sigyn/sigyn/sip/SipScannerAtEndPinLaw" (15 : Nat) ({ cls := "java/lang/String", name := "<init>", desc := "([C)V" } : Jvm.MethodName)).before a0 Z = true := hw _ (List.mem_of_getElem? (i := 8) rfl)
theorem wd_9 {a0 : Array Value} {Z : State} (hw : ∀ d ∈ tables_1, d.before a0 Z = true) : (Jvm.Cond.instanceMethod ({ cls := "java/lang/String", name := "<init>", desc := "([C)V" } : Jvm.MethodName)).before a0 Z = true := hw _ (List.mem_of_getElem? (i := 9) rfl)
theorem wd_10 {a0 : Array Value} {Z : State} (hw : ∀ d ∈ tables_1, d.before a0 Z = true) : (Jvm.Cond.code ({ cls := "java/lang/String", name := "<init>", desc := "([C)V" } : Jvm.MethodName) jdk_42_method_3_code (2 : Nat) (Option.none : Option Jvm.ClassFile.FieldType)).before a0 Z = true := hw _ (List.mem_of_getElem? (i := 10) rfl)
theorem wd_11 {a0 : Array Value} {Z : State} (hw : ∀ d ∈ tables_1, d.before a0 Z = true) : (Jvm.Cond.methodLink "java/lang/String" (27 : Nat) ({ cls := "java/lang/String", name := "<init>", desc := "([CIILjava/lang/Void;)V" } : Jvm.MethodName)).before a0 Z = true := hw _ (List.mem_of_getElem? (i := 11) rfl)
theorem wd_12 {a0 : Array Value} {Z : State} (hw : ∀ d ∈ tables_1, d.before a0 Z = true) : (Jvm.Cond.instanceMethod ({ cls := "java/lang/String", name := "<init>", desc := "([CIILjava/lang/Void;)V" } : Jvm.MethodName)).before a0 Z = true := hw _ (List.mem_of_getElem? (i := 12) rfl)
theorem wd_14 {a0 : Array Value} {Z : State} (hw : ∀ d ∈ tables_1, d.before a0 Z = true) : (Jvm.Cond.code ({ cls := "java/lang/String", name := "<init>", desc := "([CIILjava/lang/Void;)V" } : Jvm.MethodName) jdk_42_method_149_code (6 : Nat) (Option.none : Option Jvm.ClassFile.FieldType)).before a0 Z = true := hw _ (List.mem_of_getElem? (i := 14) rfl)
theorem wd_15 {a0 : Array Value} {Z : State} (hw : ∀ d ∈ tables_1, d.before a0 Z = true) : (Jvm.Cond.methodLink "java/lang/String" (1 : Nat) ({ cls := "java/lang/Object", name := "<init>", desc := "()V" } : Jvm.MethodName)).before a0 Z = true := hw _ (List.mem_of_getElem? (i := 15) rfl)
theorem wd_16 {a0 : Array Value} {Z : State} (hw : ∀ d ∈ tables_1, d.before a0 Z = true) : (Jvm.Cond.instanceMethod ({ cls := "java/lang/Object", name := "<init>", desc := "()V" } : Jvm.MethodName)).before a0 Z = true := hw _ (List.mem_of_getElem? (i := 16) rfl)
theorem wd_17 {a0 : Array Value} {Z : State} (hw : ∀ d ∈ tables_1, d.before a0 Z = true) : (Jvm.Cond.code ({ cls := "java/lang/Object", name := "<init>", desc := "()V" } : Jvm.MethodName) object_method_1_code (1 : Nat) (Option.none : Option Jvm.ClassFile.FieldType)).before a0 Z = true := hw _ (List.mem_of_getElem? (i := 17) rfl)
theorem wd_18 {a0 : Array Value} {Z : State} (hw : ∀ d ∈ tables_1, d.before a0 Z = true) : (Jvm.Cond.stringLink "java/lang/String" (7 : Nat) "").before a0 Z = true := hw _ (List.mem_of_getElem? (i := 18) rfl)
theorem wd_19 {a0 : Array Value} {Z : State} (hw : ∀ d ∈ tables_1, d.before a0 Z = true) : (Jvm.Cond.arrayClass Jvm.ClassFile.FieldType.byte).before a0 Z = true := hw _ (List.mem_of_getElem? (i := 19) rfl)
theorem wd_20 {a0 : Array Value} {Z : State} (hw : ∀ d ∈ tables_1, d.before a0 Z = true) : (Jvm.Cond.laysFinal "java/lang/String" "java/lang/String" "value" "[B").before a0 Z = true := hw _ (List.mem_of_getElem? (i := 20) rfl)
theorem wd_21 {a0 : Array Value} {Z : State} (hw : ∀ d ∈ tables_1, d.before a0 Z = true) : (Jvm.Cond.laysFinal "java/lang/String" "java/lang/String" "coder" "B").before a0 Z = true := hw _ (List.mem_of_getElem? (i := 21) rfl)
theorem wd_24 {a0 : Array Value} {Z : State} (hw : ∀ d ∈ tables_1, d.before a0 Z = true) : (Jvm.Cond.fieldLink "java/lang/String" (9 : Nat) "java/lang/String" "value" "[B").before a0 Z = true := hw _ (List.mem_of_getElem? (i := 24) rfl)
theorem wd_25 {a0 : Array Value} {Z : State} (hw : ∀ d ∈ tables_1, d.before a0 Z = true) : (Jvm.Cond.fieldLink "java/lang/String" (15 : Nat) "java/lang/String" "coder" "B").before a0 Z = true := hw _ (List.mem_of_getElem? (i := 25) rfl)
theorem wd_26 {a0 : Array Value} {Z : State} (hw : ∀ d ∈ tables_1, d.before a0 Z = true) : (Jvm.Cond.classLink "com/example/sigyn/sigyn/sip/SipScannerAtEndPinLaw" (18 : Nat) "com/example/sigyn/sigyn/sip/SipScanner").before a0 Z = true := hw _ (List.mem_of_getElem? (i := 26) rfl)
theorem wd_27 {a0 : Array Value} {Z : State} (hw : ∀ d ∈ tables_1, d.before a0 Z = true) : (Jvm.Cond.instantiable "com/example/sigyn/sigyn/sip/SipScanner" (2 : Nat)).before a0 Z = true := hw _ (List.mem_of_getElem? (i := 27) rfl)
theorem wd_28 {a0 : Array Value} {Z : State} (hw : ∀ d ∈ tables_1, d.before a0 Z = true) : (Jvm.Cond.initialized "com/example/sigyn/sigyn/sip/SipScanner").before a0 Z = true := hw _ (List.mem_of_getElem? (i := 28) rfl)
theorem wd_29 {a0 : Array Value} {Z : State} (hw : ∀ d ∈ tables_1, d.before a0 Z = true) : (Jvm.Cond.methodLink "com/example/sigyn/sigyn/sip/SipScannerAtEndPinLaw" (20 : Nat) ({ cls := "com/example/sigyn/sigyn/sip/SipScanner", name := "<init>", desc := "(Ljava/lang/String;)V" } : Jvm.MethodName)).before a0 Z = true := hw _ (List.mem_of_getElem? (i := 29) rfl)
theorem wd_30 {a0 : Array Value} {Z : State} (hw : ∀ d ∈ tables_1, d.before a0 Z = true) : (Jvm.Cond.instanceMethod ({ cls := "com/example/sigyn/sigyn/sip/SipScanner", name := "<init>", desc := "(Ljava/lang/String;)V" } : Jvm.MethodName)).before a0 Z = true := hw _ (List.mem_of_getElem? (i := 30) rfl)
theorem wd_31 {a0 : Array Value} {Z : State} (hw : ∀ d ∈ tables_1, d.before a0 Z = true) : (Jvm.Cond.code ({ cls := "com/example/sigyn/sigyn/sip/SipScanner", name := "<init>", desc := "(Ljava/lang/String;)V" } : Jvm.MethodName) prog_48_method_1_code (2 : Nat) (Option.none : Option Jvm.ClassFile.FieldType)).before a0 Z = true := hw _ (List.mem_of_getElem? (i := 31) rfl)
theorem wd_32 {a0 : Array Value} {Z : State} (hw : ∀ d ∈ tables_1, d.before a0 Z = true) : (Jvm.Cond.methodLink "com/example/sigyn/sigyn/sip/SipScanner" (1 : Nat) ({ cls := "java/lang/Object", name := "<init>", desc := "()V" } : Jvm.MethodName)).before a0 Z = true := hw _ (List.mem_of_getElem? (i := 32) rfl)
theorem wd_33 {a0 : Array Value} {Z : State} (hw : ∀ d ∈ tables_1, d.before a0 Z = true) : (Jvm.Cond.fieldLink "com/example/sigyn/sigyn/sip/SipScanner" (7 : Nat) "com/example/sigyn/sigyn/sip/SipScanner" "text" "Ljava/lang/String;").before a0 Z = true := hw _ (List.mem_of_getElem? (i := 33) rfl)
theorem wd_34 {a0 : Array Value} {Z : State} (hw : ∀ d ∈ tables_1, d.before a0 Z = true) : (Jvm.Cond.laysFinal "com/example/sigyn/sigyn/sip/SipScanner" "com/example/sigyn/sigyn/sip/SipScanner" "text" "Ljava/lang/String;").before a0 Z = true := hw _ (List.mem_of_getElem? (i := 34) rfl)
theorem wd_35 {a0 : Array Value} {Z : State} (hw : ∀ d ∈ tables_1, d.before a0 Z = true) : (Jvm.Cond.methodLink "com/example/sigyn/sigyn/sip/SipScannerAtEndPinLaw" (23 : Nat) ({ cls := "com/example/sigyn/sigyn/sip/SipScanner", name := "atEnd", desc := "()Z" } : Jvm.MethodName)).before a0 Z = true := hw _ (List.mem_of_getElem? (i := 35) rfl)
theorem wd_36 {a0 : Array Value} {Z : State} (hw : ∀ d ∈ tables_1, d.before a0 Z = true) : (Jvm.Cond.declares ({ cls := "com/example/sigyn/sigyn/sip/SipScanner", name := "atEnd", desc := "()Z" } : Jvm.MethodName)).before a0 Z = true := hw _ (List.mem_of_getElem? (i := 36) rfl)
theorem wd_37 {a0 : Array Value} {Z : State} (hw : ∀ d ∈ tables_1, d.before a0 Z = true) : (Jvm.Cond.instanceMethod ({ cls := "com/example/sigyn/sigyn/sip/SipScanner", name := "atEnd", desc := "()Z" } : Jvm.MethodName)).before a0 Z = true := hw _ (List.mem_of_getElem? (i := 37) rfl)
theorem wd_38 {a0 : Array Value} {Z : State} (hw : ∀ d ∈ tables_1, d.before a0 Z = true) : (Jvm.Cond.selects "com/example/sigyn/sigyn/sip/SipScanner" ({ cls := "com/example/sigyn/sigyn/sip/SipScanner", name := "atEnd", desc := "()Z" } : Jvm.MethodName) ({ cls := "com/example/sigyn/sigyn/sip/SipScanner", name := "atEnd", desc := "()Z" } : Jvm.MethodName)).before a0 Z = true := hw _ (List.mem_of_getElem? (i := 38) rfl)
theorem wd_39 {a0 : Array Value} {Z : State} (hw : ∀ d ∈ tables_1, d.before a0 Z = true) : (Jvm.Cond.code ({ cls := "com/example/sigyn/sigyn/sip/SipScanner", name := "atEnd", desc := "()Z" } : Jvm.MethodName) prog_48_method_2_code (1 : Nat) (Option.some Jvm.ClassFile.FieldType.boolean)).before a0 Z = true := hw _ (List.mem_of_getElem? (i := 39) rfl)
theorem wd_40 {a0 : Array Value} {Z : State} (hw : ∀ d ∈ tables_1, d.before a0 Z = true) : (Jvm.Cond.fieldLink "com/example/sigyn/sigyn/sip/SipScanner" (13 : Nat) "com/example/sigyn/sigyn/sip/SipScanner" "pos" "I").before a0 Z = true := hw _ (List.mem_of_getElem? (i := 40) rfl)
theorem wd_41 {a0 : Array Value} {Z : State} (hw : ∀ d ∈ tables_1, d.before a0 Z = true) : (Jvm.Cond.lays "com/example/sigyn/sigyn/sip/SipScanner" "com/example/sigyn/sigyn/sip/SipScanner" "pos" "I").before a0 Z = true := hw _ (List.mem_of_getElem? (i := 41) rfl)
theorem wd_42 {a0 : Array Value} {Z : State} (hw : ∀ d ∈ tables_1, d.before a0 Z = true) : (Jvm.Cond.methodLink "com/example/sigyn/sigyn/sip/SipScanner" (17 : Nat) ({ cls := "java/lang/String", name := "length", desc := "()I" } : Jvm.MethodName)).before a0 Z = true := hw _ (List.mem_of_getElem? (i := 42) rfl)
theorem wd_43 {a0 : Array Value} {Z : State} (hw : ∀ d ∈ tables_1, d.before a0 Z = true) : (Jvm.Cond.declares ({ cls := "java/lang/String", name := "length", desc := "()I" } : Jvm.MethodName)).before a0 Z = true := hw _ (List.mem_of_getElem? (i := 43) rfl)
theorem wd_44 {a0 : Array Value} {Z : State} (hw : ∀ d ∈ tables_1, d.before a0 Z = true) : (Jvm.Cond.instanceMethod ({ cls := "java/lang/String", name := "length", desc := "()I" } : Jvm.MethodName)).before a0 Z = true := hw _ (List.mem_of_getElem? (i := 44) rfl)
theorem wd_45 {a0 : Array Value} {Z : State} (hw : ∀ d ∈ tables_1, d.before a0 Z = true) : (Jvm.Cond.selects "java/lang/String" ({ cls := "java/lang/String", name := "length", desc := "()I" } : Jvm.MethodName) ({ cls := "java/lang/String", name := "length", desc := "()I" } : Jvm.MethodName)).before a0 Z = true := hw _ (List.mem_of_getElem? (i := 45) rfl)
theorem wd_53 {a0 : Array Value} {Z : State} (hw : ∀ d ∈ tables_1, d.before a0 Z = true) : (Jvm.Cond.methodLink "com/example/sigyn/sigyn/sip/SipScannerAtEndPinLaw" (27 : Nat) ({ cls := "com/example/sigyn/sigyn/sip/SipScanner", name := "skipSpace", desc := "()I" } : Jvm.MethodName)).before a0 Z = true := hw _ (List.mem_of_getElem? (i := 53) rfl)
theorem wd_54 {a0 : Array Value} {Z : State} (hw : ∀ d ∈ tables_1, d.before a0 Z = true) : (Jvm.Cond.declares ({ cls := "com/example/sigyn/sigyn/sip/SipScanner", name := "skipSpace", desc := "()I" } : Jvm.MethodName)).before a0 Z = true := hw _ (List.mem_of_getElem? (i := 54) rfl)
theorem wd_55 {a0 : Array Value} {Z : State} (hw : ∀ d ∈ tables_1, d.before a0 Z = true) : (Jvm.Cond.instanceMethod ({ cls := "com/example/sigyn/sigyn/sip/SipScanner", name := "skipSpace", desc := "()I" } : Jvm.MethodName)).before a0 Z = true := hw _ (List.mem_of_getElem? (i := 55) rfl)
theorem wd_56 {a0 : Array Value} {Z : State} (hw : ∀ d ∈ tables_1, d.before a0 Z = true) : (Jvm.Cond.selects "com/example/sigyn/sigyn/sip/SipScanner" ({ cls := "com/example/sigyn/sigyn/sip/SipScanner", name := "skipSpace", desc := "()I" } : Jvm.MethodName) ({ cls := "com/example/sigyn/sigyn/sip/SipScanner", name := "skipSpace", desc := "()I" } : Jvm.MethodName)).before a0 Z = true := hw _ (List.mem_of_getElem? (i := 56) rfl)
theorem wd_57 {a0 : Array Value} {Z : State} (hw : ∀ d ∈ tables_1, d.before a0 Z = true) : (Jvm.Cond.code ({ cls := "com/example/sigyn/sigyn/sip/SipScanner", name := "skipSpace", desc := "()I" } : Jvm.MethodName) prog_48_method_3_code (2 : Nat) (Option.some Jvm.ClassFile.FieldType.int)).before a0 Z = true := hw _ (List.mem_of_getElem? (i := 57) rfl)
theorem wd_68 {a0 : Array Value} {Z : State} (hw : ∀ d ∈ tables_1, d.before a0 Z = true) : (Jvm.Cond.methodLink "com/example/sigyn/sigyn/sip/SipScanner" (23 : Nat) ({ cls := "java/lang/String", name := "charAt", desc := "(I)C" } : Jvm.MethodName)).before a0 Z = true := hw _ (List.mem_of_getElem? (i := 68) rfl)
theorem wd_69 {a0 : Array Value} {Z : State} (hw : ∀ d ∈ tables_1, d.before a0 Z = true) : (Jvm.Cond.declares ({ cls := "java/lang/String", name := "charAt", desc := "(I)C" } : Jvm.MethodName)).before a0 Z = true := hw _ (List.mem_of_getElem? (i := 69) rfl)
theorem wd_70 {a0 : Array Value} {Z : State} (hw : ∀ d ∈ tables_1, d.before a0 Z = true) : (Jvm.Cond.instanceMethod ({ cls := "java/lang/String", name := "charAt", desc := "(I)C" } : Jvm.MethodName)).before a0 Z = true := hw _ (List.mem_of_getElem? (i := 70) rfl)
theorem wd_71 {a0 : Array Value} {Z : State} (hw : ∀ d ∈ tables_1, d.before a0 Z = true) : (Jvm.Cond.selects "java/lang/String" ({ cls := "java/lang/String", name := "charAt", desc := "(I)C" } : Jvm.MethodName) ({ cls := "java/lang/String", name := "charAt", desc := "(I)C" } : Jvm.MethodName)).before a0 Z = true := hw _ (List.mem_of_getElem? (i := 71) rfl)
theorem wd_90 {a0 : Array Value} {Z : State} (hw : ∀ d ∈ tables_1, d.before a0 Z = true) : (Jvm.Cond.methodLink "com/example/sigyn/sigyn/sip/SipScanner" (27 : Nat) ({ cls := "com/example/sigyn/sigyn/sip/SipScanner", name := "isSpace", desc := "(C)Z" } : Jvm.MethodName)).before a0 Z = true := hw _ (List.mem_of_getElem? (i := 90) rfl)
theorem wd_91 {a0 : Array Value} {Z : State} (hw : ∀ d ∈ tables_1, d.before a0 Z = true) : (Jvm.Cond.static ({ cls := "com/example/sigyn/sigyn/sip/SipScanner", name := "isSpace", desc := "(C)Z" } : Jvm.MethodName)).before a0 Z = true := hw _ (List.mem_of_getElem? (i := 91) rfl)
theorem wd_92 {a0 : Array Value} {Z : State} (hw : ∀ d ∈ tables_1, d.before a0 Z = true) : (Jvm.Cond.code ({ cls := "com/example/sigyn/sigyn/sip/SipScanner", name := "isSpace", desc := "(C)Z" } : Jvm.MethodName) prog_48_method_13_code (1 : Nat) (Option.some Jvm.ClassFile.FieldType.boolean)).before a0 Z = true := hw _ (List.mem_of_getElem? (i := 92) rfl)
theorem wd_93 {a0 : Array Value} {Z : State} (hw : ∀ d ∈ tables_1, d.before a0 Z = true) : (Jvm.Cond.methodLink "com/example/sigyn/sigyn/sip/SipScannerAtEndPinLaw" (31 : Nat) ({ cls := "com/example/sigyn/sigyn/sip/SipScannerAtEndPinLaw", name := "sp", desc := "(C)Z" } : Jvm.MethodName)).before a0 Z = true := hw _ (List.mem_of_getElem? (i := 93) rfl)
theorem wd_94 {a0 : Array Value} {Z : State} (hw : ∀ d ∈ tables_1, d.before a0 Z = true) : (Jvm.Cond.static ({ cls := "com/example/sigyn/sigyn/sip/SipScannerAtEndPinLaw", name := "sp", desc := "(C)Z" } : Jvm.MethodName)).before a0 Z = true := hw _ (List.mem_of_getElem? (i := 94) rfl)
theorem wd_95 {a0 : Array Value} {Z : State} (hw : ∀ d ∈ tables_1, d.before a0 Z = true) : (Jvm.Cond.code ({ cls := "com/example/sigyn/sigyn/sip/SipScannerAtEndPinLaw", name := "sp", desc := "(C)Z" } : Jvm.MethodName) method_3_code (1 : Nat) (Option.some Jvm.ClassFile.FieldType.boolean)).before a0 Z = true := hw _ (List.mem_of_getElem? (i := 95) rfl)
theorem pn_0 : plainName "com/example/sigyn/sigyn/sip/SipScannerAtEndPinLaw" = true := by first | (simp [plainName, overriddenIn]; done) | decide +kernel
theorem pn_1 : plainName "com/example/sigyn/sigyn/sip/SipScanner" = true := by first | (simp [plainName, overriddenIn]; done) | decide +kernel
theorem pn_2 : plainName "java/lang/String" = true := by first | (simp [plainName, overriddenIn]; done) | decide +kernel
theorem pd_0 : parseMethodDescriptor "([CIILjava/lang/Void;)V" = some ⟨[(.array .char), .int, .int, (.object "java/lang/Void")], none⟩ := by decide +kernel
theorem pd_1 : parseMethodDescriptor "()I" = some ⟨[], some .int⟩ := by decide +kernel
theorem pd_2 : parseMethodDescriptor "(I)C" = some ⟨[.int], some .char⟩ := by decide +kernel
theorem pd_3 : parseMethodDescriptor "(C)Z" = some ⟨[.char], some .boolean⟩ := by decide +kernel
theorem pd_4 : parseMethodDescriptor "([C)V" = some ⟨[(.array .char)], none⟩ := by decide +kernel
theorem pd_5 : parseMethodDescriptor "(Ljava/lang/String;)V" = some ⟨[(.object "java/lang/String")], none⟩ := by decide +kernel
theorem pd_6 : parseMethodDescriptor "()Z" = some ⟨[], some .boolean⟩ := by decide +kernel
theorem pf_0 : parseFieldDescriptor "[B" = some (.array .byte) := by decide +kernel
theorem pf_1 : parseFieldDescriptor "B" = some .byte := by decide +kernel
theorem pf_2 : parseFieldDescriptor "Ljava/lang/String;" = some (.object "java/lang/String") := by decide +kernel
theorem pf_3 : parseFieldDescriptor "I" = some .int := by decide +kernel
theorem sn_0 {a0 : Array Value} {Z : State} (hw : ∀ d ∈ tables_1, d.before a0 Z = true) : Jvm.RoadKit.slotOf Z "java/lang/String" "coder" "B" ≠ Jvm.RoadKit.slotOf Z "java/lang/String" "value" "[B" := slot_ne (a0 := a0) (C := "java/lang/String") (Or.inr (wd_21 hw)) (Or.inr (wd_20 hw)) (by decide) pf_1 pf_0
theorem sn_1 {a0 : Array Value} {Z : State} (hw : ∀ d ∈ tables_1, d.before a0 Z = true) : Jvm.RoadKit.slotOf Z "java/lang/String" "value" "[B" ≠ Jvm.RoadKit.slotOf Z "java/lang/String" "coder" "B" := slot_ne (a0 := a0) (C := "java/lang/String") (Or.inr (wd_20 hw)) (Or.inr (wd_21 hw)) (by decide) pf_0 pf_1
theorem sn_2 {a0 : Array Value} {Z : State} (hw : ∀ d ∈ tables_1, d.before a0 Z = true) : Jvm.RoadKit.slotOf Z "com/example/sigyn/sigyn/sip/SipScanner" "pos" "I" ≠ Jvm.RoadKit.slotOf Z "com/example/sigyn/sigyn/sip/SipScanner" "text" "Ljava/lang/String;" := slot_ne (a0 := a0) (C := "com/example/sigyn/sigyn/sip/SipScanner") (Or.inl (wd_41 hw)) (Or.inr (wd_34 hw)) (by decide) pf_3 pf_2
theorem sn_3 {a0 : Array Value} {Z : State} (hw : ∀ d ∈ tables_1, d.before a0 Z = true) : Jvm.RoadKit.slotOf Z "com/example/sigyn/sigyn/sip/SipScanner" "text" "Ljava/lang/String;" ≠ Jvm.RoadKit.slotOf Z "com/example/sigyn/sigyn/sip/SipScanner" "pos" "I" := slot_ne (a0 := a0) (C := "com/example/sigyn/sigyn/sip/SipScanner") (Or.inr (wd_34 hw)) (Or.inl (wd_41 hw)) (by decide) pf_2 pf_3
theorem d_jdk_42_method_149_code_0 : decode jdk_42_method_149_code 0 = .ok (.aload_n 0, 1) := by decide +kernel
theorem d_jdk_42_method_149_code_1 : decode jdk_42_method_149_code 1 = .ok (.invokespecial 1, 3) := by decide +kernel
theorem d_jdk_42_method_149_code_11 : decode jdk_42_method_149_code 11 = .ok (.getfield 9, 3) := by decide +kernel
theorem d_jdk_42_method_149_code_14 : decode jdk_42_method_149_code 14 = .ok (.putfield 9, 3) := by decide +kernel
theorem d_jdk_42_method_149_code_17 : decode jdk_42_method_149_code 17 = .ok (.aload_n 0, 1) := by decide +kernel
theorem d_jdk_42_method_149_code_18 : decode jdk_42_method_149_code 18 = .ok (.ldc 7, 2) := by decide +kernel
theorem d_jdk_42_method_149_code_20 : decode jdk_42_method_149_code 20 = .ok (.getfield 15, 3) := by decide +kernel
theorem d_jdk_42_method_149_code_23 : decode jdk_42_method_149_code 23 = .ok (.putfield 15, 3) := by decide +kernel
theorem d_jdk_42_method_149_code_26 : decode jdk_42_method_149_code 26 = .ok (.return_, 1) := by decide +kernel
theorem d_jdk_42_method_149_code_4 : decode jdk_42_method_149_code 4 = .ok (.iload_n 3, 1) := by decide +kernel
theorem d_jdk_42_method_149_code_5 : decode jdk_42_method_149_code 5 = .ok (.ifCond .ne 22, 3) := by decide +kernel
theorem d_jdk_42_method_149_code_8 : decode jdk_42_method_149_code 8 = .ok (.aload_n 0, 1) := by decide +kernel
theorem d_jdk_42_method_149_code_9 : decode jdk_42_method_149_code 9 = .ok (.ldc 7, 2) := by decide +kernel
theorem d_jdk_42_method_3_code_0 : decode jdk_42_method_3_code 0 = .ok (.aload_n 0, 1) := by decide +kernel
theorem d_jdk_42_method_3_code_1 : decode jdk_42_method_3_code 1 = .ok (.aload_n 1, 1) := by decide +kernel
theorem d_jdk_42_method_3_code_2 : decode jdk_42_method_3_code 2 = .ok (.iconst 0, 1) := by decide +kernel
theorem d_jdk_42_method_3_code_3 : decode jdk_42_method_3_code 3 = .ok (.aload_n 1, 1) := by decide +kernel
theorem d_jdk_42_method_3_code_4 : decode jdk_42_method_3_code 4 = .ok (.arraylength, 1) := by decide +kernel
theorem d_jdk_42_method_3_code_5 : decode jdk_42_method_3_code 5 = .ok (.aconst_null, 1) := by decide +kernel
theorem d_jdk_42_method_3_code_6 : decode jdk_42_method_3_code 6 = .ok (.invokespecial 27, 3) := by decide +kernel
theorem d_jdk_42_method_3_code_9 : decode jdk_42_method_3_code 9 = .ok (.return_, 1) := by decide +kernel
theorem d_method_2_code_0 : decode method_2_code 0 = .ok (.iload_n 0, 1) := by decide +kernel
theorem d_method_2_code_1 : decode method_2_code 1 = .ok (.bipush 8, 2) := by decide +kernel
theorem d_method_2_code_11 : decode method_2_code 11 = .ok (.bipush 32, 2) := by decide +kernel
theorem d_method_2_code_13 : decode method_2_code 13 = .ok (.ireturn, 1) := by decide +kernel
theorem d_method_2_code_14 : decode method_2_code 14 = .ok (.iload_n 1, 1) := by decide +kernel
theorem d_method_2_code_15 : decode method_2_code 15 = .ok (.iconst 1, 1) := by decide +kernel
theorem d_method_2_code_16 : decode method_2_code 16 = .ok (.if_icmp .ne 6, 3) := by decide +kernel
theorem d_method_2_code_19 : decode method_2_code 19 = .ok (.bipush 9, 2) := by decide +kernel
theorem d_method_2_code_21 : decode method_2_code 21 = .ok (.ireturn, 1) := by decide +kernel
theorem d_method_2_code_22 : decode method_2_code 22 = .ok (.iload_n 0, 1) := by decide +kernel
theorem d_method_2_code_23 : decode method_2_code 23 = .ok (.sipush 255, 3) := by decide +kernel
theorem d_method_2_code_26 : decode method_2_code 26 = .ok (.iand, 1) := by decide +kernel
theorem d_method_2_code_27 : decode method_2_code 27 = .ok (.i2c, 1) := by decide +kernel
theorem d_method_2_code_28 : decode method_2_code 28 = .ok (.ireturn, 1) := by decide +kernel
theorem d_method_2_code_3 : decode method_2_code 3 = .ok (.iushr, 1) := by decide +kernel
theorem d_method_2_code_4 : decode method_2_code 4 = .ok (.iconst 3, 1) := by decide +kernel
theorem d_method_2_code_5 : decode method_2_code 5 = .ok (.iand, 1) := by decide +kernel
theorem d_method_2_code_6 : decode method_2_code 6 = .ok (.istore_n 1, 1) := by decide +kernel
theorem d_method_2_code_7 : decode method_2_code 7 = .ok (.iload_n 1, 1) := by decide +kernel
theorem d_method_2_code_8 : decode method_2_code 8 = .ok (.ifCond .ne 6, 3) := by decide +kernel
theorem d_method_3_code_0 : decode method_3_code 0 = .ok (.iload_n 0, 1) := by decide +kernel
theorem d_method_3_code_1 : decode method_3_code 1 = .ok (.bipush 32, 2) := by decide +kernel
theorem d_method_3_code_12 : decode method_3_code 12 = .ok (.iconst 1, 1) := by decide +kernel
theorem d_method_3_code_13 : decode method_3_code 13 = .ok (.goto 4, 3) := by decide +kernel
theorem d_method_3_code_16 : decode method_3_code 16 = .ok (.iconst 0, 1) := by decide +kernel
theorem d_method_3_code_17 : decode method_3_code 17 = .ok (.ireturn, 1) := by decide +kernel
theorem d_method_3_code_3 : decode method_3_code 3 = .ok (.if_icmp .eq 9, 3) := by decide +kernel
theorem d_method_3_code_6 : decode method_3_code 6 = .ok (.iload_n 0, 1) := by decide +kernel
theorem d_method_3_code_7 : decode method_3_code 7 = .ok (.bipush 9, 2) := by decide +kernel
theorem d_method_3_code_9 : decode method_3_code 9 = .ok (.if_icmp .ne 7, 3) := by decide +kernel
theorem d_prog_48_method_13_code_0 : decode prog_48_method_13_code 0 = .ok (.iload_n 0, 1) := by decide +kernel
theorem d_prog_48_method_13_code_1 : decode prog_48_method_13_code 1 = .ok (.bipush 32, 2) := by decide +kernel
theorem d_prog_48_method_13_code_12 : decode prog_48_method_13_code 12 = .ok (.iconst 1, 1) := by decide +kernel
theorem d_prog_48_method_13_code_13 : decode prog_48_method_13_code 13 = .ok (.goto 4, 3) := by decide +kernel
theorem d_prog_48_method_13_code_16 : decode prog_48_method_13_code 16 = .ok (.iconst 0, 1) := by decide +kernel
theorem d_prog_48_method_13_code_17 : decode prog_48_method_13_code 17 = .ok (.ireturn, 1) := by decide +kernel
theorem d_prog_48_method_13_code_3 : decode prog_48_method_13_code 3 = .ok (.if_icmp .eq 9, 3) := by decide +kernel
theorem d_prog_48_method_13_code_6 : decode prog_48_method_13_code 6 = .ok (.iload_n 0, 1) := by decide +kernel
theorem d_prog_48_method_13_code_7 : decode prog_48_method_13_code 7 = .ok (.bipush 9, 2) := by decide +kernel
theorem d_prog_48_method_13_code_9 : decode prog_48_method_13_code 9 = .ok (.if_icmp .ne 7, 3) := by decide +kernel
theorem d_prog_48_method_1_code_0 : decode prog_48_method_1_code 0 = .ok (.aload_n 0, 1) := by decide +kernel
theorem d_prog_48_method_1_code_1 : decode prog_48_method_1_code 1 = .ok (.invokespecial 1, 3) := by decide +kernel
theorem d_prog_48_method_1_code_4 : decode prog_48_method_1_code 4 = .ok (.aload_n 0, 1) := by decide +kernel
theorem d_prog_48_method_1_code_5 : decode prog_48_method_1_code 5 = .ok (.aload_n 1, 1) := by decide +kernel
theorem d_prog_48_method_1_code_6 : decode prog_48_method_1_code 6 = .ok (.putfield 7, 3) := by decide +kernel
theorem d_prog_48_method_1_code_9 : decode prog_48_method_1_code 9 = .ok (.return_, 1) := by decide +kernel
theorem d_prog_48_method_2_code_0 : decode prog_48_method_2_code 0 = .ok (.aload_n 0, 1) := by decide +kernel
theorem d_prog_48_method_2_code_1 : decode prog_48_method_2_code 1 = .ok (.getfield 13, 3) := by decide +kernel
theorem d_prog_48_method_2_code_11 : decode prog_48_method_2_code 11 = .ok (.if_icmp .ne 7, 3) := by decide +kernel
theorem d_prog_48_method_2_code_14 : decode prog_48_method_2_code 14 = .ok (.iconst 1, 1) := by decide +kernel
theorem d_prog_48_method_2_code_15 : decode prog_48_method_2_code 15 = .ok (.goto 4, 3) := by decide +kernel
theorem d_prog_48_method_2_code_18 : decode prog_48_method_2_code 18 = .ok (.iconst 0, 1) := by decide +kernel
theorem d_prog_48_method_2_code_19 : decode prog_48_method_2_code 19 = .ok (.ireturn, 1) := by decide +kernel
theorem d_prog_48_method_2_code_4 : decode prog_48_method_2_code 4 = .ok (.aload_n 0, 1) := by decide +kernel
theorem d_prog_48_method_2_code_5 : decode prog_48_method_2_code 5 = .ok (.getfield 7, 3) := by decide +kernel
theorem d_prog_48_method_2_code_8 : decode prog_48_method_2_code 8 = .ok (.invokevirtual 17, 3) := by decide +kernel
theorem d_prog_48_method_3_code_0 : decode prog_48_method_3_code 0 = .ok (.aload_n 0, 1) := by decide +kernel
theorem d_prog_48_method_3_code_1 : decode prog_48_method_3_code 1 = .ok (.getfield 13, 3) := by decide +kernel
theorem d_prog_48_method_3_code_10 : decode prog_48_method_3_code 10 = .ok (.getfield 7, 3) := by decide +kernel
theorem d_prog_48_method_3_code_13 : decode prog_48_method_3_code 13 = .ok (.invokevirtual 17, 3) := by decide +kernel
theorem d_prog_48_method_3_code_16 : decode prog_48_method_3_code 16 = .ok (.if_icmp .ge 33, 3) := by decide +kernel
theorem d_prog_48_method_3_code_19 : decode prog_48_method_3_code 19 = .ok (.aload_n 0, 1) := by decide +kernel
theorem d_prog_48_method_3_code_20 : decode prog_48_method_3_code 20 = .ok (.getfield 7, 3) := by decide +kernel
theorem d_prog_48_method_3_code_23 : decode prog_48_method_3_code 23 = .ok (.aload_n 0, 1) := by decide +kernel
theorem d_prog_48_method_3_code_24 : decode prog_48_method_3_code 24 = .ok (.getfield 13, 3) := by decide +kernel
theorem d_prog_48_method_3_code_27 : decode prog_48_method_3_code 27 = .ok (.invokevirtual 23, 3) := by decide +kernel
theorem d_prog_48_method_3_code_30 : decode prog_48_method_3_code 30 = .ok (.invokestatic 27, 3) := by decide +kernel
theorem d_prog_48_method_3_code_33 : decode prog_48_method_3_code 33 = .ok (.ifCond .eq 16, 3) := by decide +kernel
theorem d_prog_48_method_3_code_36 : decode prog_48_method_3_code 36 = .ok (.aload_n 0, 1) := by decide +kernel
theorem d_prog_48_method_3_code_37 : decode prog_48_method_3_code 37 = .ok (.dup, 1) := by decide +kernel
theorem d_prog_48_method_3_code_38 : decode prog_48_method_3_code 38 = .ok (.getfield 13, 3) := by decide +kernel
theorem d_prog_48_method_3_code_4 : decode prog_48_method_3_code 4 = .ok (.istore_n 1, 1) := by decide +kernel
theorem d_prog_48_method_3_code_41 : decode prog_48_method_3_code 41 = .ok (.iconst 1, 1) := by decide +kernel
theorem d_prog_48_method_3_code_42 : decode prog_48_method_3_code 42 = .ok (.iadd, 1) := by decide +kernel
theorem d_prog_48_method_3_code_43 : decode prog_48_method_3_code 43 = .ok (.putfield 13, 3) := by decide +kernel
theorem d_prog_48_method_3_code_46 : decode prog_48_method_3_code 46 = .ok (.goto (-41), 3) := by decide +kernel
theorem d_prog_48_method_3_code_49 : decode prog_48_method_3_code 49 = .ok (.aload_n 0, 1) := by decide +kernel
theorem d_prog_48_method_3_code_5 : decode prog_48_method_3_code 5 = .ok (.aload_n 0, 1) := by decide +kernel
theorem d_prog_48_method_3_code_50 : decode prog_48_method_3_code 50 = .ok (.getfield 13, 3) := by decide +kernel
theorem d_prog_48_method_3_code_53 : decode prog_48_method_3_code 53 = .ok (.iload_n 1, 1) := by decide +kernel
theorem d_prog_48_method_3_code_54 : decode prog_48_method_3_code 54 = .ok (.isub, 1) := by decide +kernel
theorem d_prog_48_method_3_code_55 : decode prog_48_method_3_code 55 = .ok (.ireturn, 1) := by decide +kernel
theorem d_prog_48_method_3_code_6 : decode prog_48_method_3_code 6 = .ok (.getfield 13, 3) := by decide +kernel
theorem d_prog_48_method_3_code_9 : decode prog_48_method_3_code 9 = .ok (.aload_n 0, 1) := by decide +kernel
theorem lat0 : ∀ c ∈ ([] : List Int32), ¬ c < 0 ∧ ¬ (255 : Int32) < c := fun _ q => nomatch q
theorem latc {x : Int32} {cs : List Int32} (q : ¬ x < 0 ∧ ¬ (255 : Int32) < x) (r : ∀ c ∈ cs, ¬ c < 0 ∧ ¬ (255 : Int32) < c) : ∀ c ∈ x :: cs, ¬ c < 0 ∧ ¬ (255 : Int32) < c := fun c z => (List.mem_cons.mp z).elim (fun u => u ▸ q) (r c)
theorem eqv_if {cs ds : List Int32} {v : Option Value} (h : (v = some (.int 1) ∧ cs = ds) ∨ (v = some (.int 0) ∧ ¬ cs = ds)) : v = some (.int (if cs = ds then (1 : Int32) else 0)) := by
  rcases h with ⟨a, b⟩ | ⟨a, b⟩
  · rw [a, if_pos b]
  · rw [a, if_neg b]
theorem sw_words {a0 : Array Value} {Z : State} (hw : ∀ d ∈ tables_1, d.before a0 Z = true) : ∀ d ∈ StrChars.Road.words, d.before a0 Z = true := fun d hd => hw d ((by decide +kernel : ∀ d ∈ StrChars.Road.words, d ∈ tables_1) d hd)
theorem sw_wordsChN {a0 : Array Value} {Z : State} (hw : ∀ d ∈ tables_1, d.before a0 Z = true) : ∀ d ∈ StrChars.Road.wordsChN, d.before a0 Z = true := fun d hd => hw d ((by decide +kernel : ∀ d ∈ StrChars.Road.wordsChN, d ∈ tables_1) d hd)
theorem sw_wordsLen {a0 : Array Value} {Z : State} (hw : ∀ d ∈ tables_1, d.before a0 Z = true) : ∀ d ∈ StrChars.Road.wordsLen, d.before a0 Z = true := fun d hd => hw d ((by decide +kernel : ∀ d ∈ StrChars.Road.wordsLen, d ∈ tables_1) d hd)
def EL : List (String × Nat) := [("java/lang/String", 7)]
theorem hEL_ {Z : State} {a0 : Array Value} (hw : ∀ d ∈ tables_1, d.before a0 Z = true) : EW Z a0 EL := (EW.cons (wd_18 hw) (by decide) EW.nil)
theorem hwS_ {Z : State} {a0 : Array Value} (hw : ∀ d ∈ tables_1, d.before a0 Z = true) : ∀ d ∈ Bundle.stringAtoms, d.before a0 Z = true := fun d hd => hw d ((by decide +kernel : ∀ d ∈ Bundle.stringAtoms, d ∈ tables_1) d hd)
def St (Z : State) (zc : Int32) (vfm : Value) : Prop := Sta Z Z.heap "java/lang/String" "COMPACT_STRINGS" "Z" (.int zc) ∧ ¬ zc = 0 ∧ Sta Z Z.heap "jdk/internal/util/Preconditions" "SIOOBE_FORMATTER" "Ljava/util/function/BiFunction;" vfm ∧ vfm.isRef = true
theorem nar255 (x : Int32) : nar .char (x &&& (255 : Int32)) = x &&& (255 : Int32) := i2c_mask x
theorem lat255 (x : Int32) : ¬ (x &&& (255 : Int32)) < 0 ∧ ¬ (255 : Int32) < x &&& (255 : Int32) := by
  have h := c_mask x 255 8 (by decide) (by decide)
  have e1 : (255 : Int32).toInt = 255 := by decide
  have e2 : (0 : Int32).toInt = 0 := by decide
  rw [Int32.lt_iff_toInt_lt, Int32.lt_iff_toInt_lt, h]
  omega
theorem latI {x : Int32} (h : ¬ x < 0 ∧ ¬ (255 : Int32) < x) : 0 ≤ x.toInt ∧ x.toInt ≤ 255 := by
  have e1 : (255 : Int32).toInt = 255 := by decide
  have e2 : (0 : Int32).toInt = 0 := by decide
  rw [Int32.lt_iff_toInt_lt, Int32.lt_iff_toInt_lt] at h
  omega
theorem nar_lat {x : Int32} (h : ¬ x < 0 ∧ ¬ (255 : Int32) < x) : nar .char x = x := by
  have q := latI h
  have r := c_i2c x
  have s := rng32 x
  apply Int32.toInt_inj.mp
  show x.toUInt32.toUInt16.toUInt32.toInt32.toInt = x.toInt
  omega
theorem i8_inj {x y : Int32} (hx : ¬ x < 0 ∧ ¬ (255 : Int32) < x) (hy : ¬ y < 0 ∧ ¬ (255 : Int32) < y) (e : x.toInt8.toInt32 = y.toInt8.toInt32) : x = y := by
  have a := latI hx
  have b := latI hy
  have r := c_i2b x
  have s := c_i2b y
  rw [e] at r
  apply Int32.toInt_inj.mp
  omega
theorem bytes_getD (cs : List Int32) (i : Nat) : ((cs.map fun c => c.toInt8.toInt32).map Value.int).getD i (.int (0 : Int32)) = .int (cs.getD i 0).toInt8.toInt32 := by
  rw [List.map_map, List.getD_eq_getElem?_getD, List.getD_eq_getElem?_getD, List.getElem?_map]
  cases cs[i]? <;> rfl
theorem ofNat_toInt {k : Nat} (h : k ≤ 100000) : (Int32.ofNat k).toInt = k := Int32.toInt_ofNat_small (by omega)
theorem lt_ofNat {k i : Nat} {j : Int32} (h : k ≤ 100000) (e : j.toInt = i) (q : i < k) : ¬ j < 0 ∧ j < Int32.ofNat k := by
  rw [Int32.lt_iff_toInt_lt, Int32.lt_iff_toInt_lt, ofNat_toInt h, e]
  have e2 : (0 : Int32).toInt = 0 := by decide
  omega
theorem sub_lt0 {k n : Nat} {j : Int32} (h : k ≤ 100000) (e : j.toInt = n) (q : n ≤ 100000) : (Int32.ofNat k - j) < 0 ↔ k < n := by
  have a := c_isub (Int32.ofNat k) j
  have b := rng32 (Int32.ofNat k - j)
  rw [ofNat_toInt h, e] at a
  have e2 : (0 : Int32).toInt = 0 := by decide
  rw [Int32.lt_iff_toInt_lt, e2]
  omega
theorem b01_iff {P Q : Prop} [Decidable P] [Decidable Q] (h : P ↔ Q) : (if P then (1 : Int32) else 0) = (if Q then (1 : Int32) else 0) := by
  by_cases q : P
  · rw [if_pos q, if_pos (h.mp q)]
  · rw [if_neg q, if_neg (fun z => q (h.mpr z))]

theorem range4 (x : Int32) : (x &&& (3 : Int32)) = 0 ∨ (x &&& (3 : Int32)) = 1 ∨ (x &&& (3 : Int32)) = 2 ∨ (x &&& (3 : Int32)) = 3 := by
  have h := c_mask x 3 2 (by decide) (by decide)
  have q : (x &&& (3 : Int32)).toInt = 0 ∨ (x &&& (3 : Int32)).toInt = 1 ∨ (x &&& (3 : Int32)).toInt = 2 ∨ (x &&& (3 : Int32)).toInt = 3 := by omega
  rcases q with q | q | q | q
  · exact Or.inl (Int32.toInt_inj.mp q)
  · exact Or.inr (Or.inl (Int32.toInt_inj.mp q))
  · exact Or.inr (Or.inr (Or.inl (Int32.toInt_inj.mp q)))
  · exact Or.inr (Or.inr (Or.inr (Int32.toInt_inj.mp q)))
abbrev isp (c : Int32) : Prop := c = (32 : Int32) ∨ c = (9 : Int32)
--@C draw
def Q_draw (Z : State) (zc : Int32) (vfm : Value) (p1 : Int32) (h0 : Heap) (n0 : Nat) (v : Option Value) (h : Heap) (L : List Loc) : Prop := ∃ (v1 : Int32), v = some (.int v1) ∧ Fr n0 L ∧ h = h0 ∧ (¬ v1 < 0 ∧ ¬ (255 : Int32) < v1)
set_option maxRecDepth 65536 in
set_option maxHeartbeats 40000000 in
theorem rm_draw (l : Launch) (Z : State) (a0 : Array Value) (hw : ∀ d ∈ tables_1, d.before a0 Z = true) (zc : Int32) (vfm : Value) (p1 : Int32) (h0 : Heap) (n0 : Nat) (Z0 : n0 ≤ h0.size) (hSt : St Z zc vfm) (hO : Old Z n0 h0) :
    CN l Z ({ cls := "com/example/sigyn/sigyn/sip/SipScannerAtEndPinLaw", name := "draw", desc := "(I)C" } : Jvm.MethodName) [(Jvm.Cond.code ({ cls := "com/example/sigyn/sigyn/sip/SipScannerAtEndPinLaw", name := "draw", desc := "(I)C" } : Jvm.MethodName) method_2_code (2 : Nat) (Option.some Jvm.ClassFile.FieldType.char))] ({ frames := 0, cells := 0, slots := 0, locals := 0 } : Room) #[(.int p1)] h0 (Q_draw Z zc vfm p1 h0 n0) := by
  refine CN.of (L0 := #[.val (.int p1), .unset]) (plainFor_of_name pn_0) (fun m => by first | (simp [entryFrame, mkF, argsToLocals, Value.category]; done) | rfl) ?_
  intro p e s m below meth c s₁ hx hby hml hret hlk hZ hown hnm X0 e0
  have N0 := Fr.nil n0
  have KP0 := Keep.refl h0 []
  have hSt_ := hSt
  obtain ⟨S_cs, n_cs, S_fm, r_fm⟩ := hSt_
  show Go p e below _ (s₁.setTop (mkF m 0 #[.val (.int p1), .unset] []))
  refine Go.step (fun _ k => XS.iloadN X0.here hx rfl (hb hby d_method_2_code_0) rfl  k) ?_
  show Go p e below _ (s₁.setTop (mkF m 1 #[.val (.int p1), .unset] [(.int p1)]))
  refine Go.step (fun _ k => XS.bipush X0.here hx rfl (hb hby d_method_2_code_1) k) ?_
  show Go p e below _ (s₁.setTop (mkF m 3 #[.val (.int p1), .unset] [(.int (8 : Int32)), (.int p1)]))
  refine Go.step (fun _ k => XS.iushr X0.here hx rfl (hb hby d_method_2_code_3) rfl k) ?_
  show Go p e below _ (s₁.setTop (mkF m 4 #[.val (.int p1), .unset] [(.int ((p1.toUInt32 >>> ((8 : Int32) &&& 31).toUInt32).toInt32))]))
  refine Go.step (fun _ k => XS.iconst X0.here hx rfl (hb hby d_method_2_code_4) k) ?_
  show Go p e below _ (s₁.setTop (mkF m 5 #[.val (.int p1), .unset] [(.int (3 : Int32)), (.int ((p1.toUInt32 >>> ((8 : Int32) &&& 31).toUInt32).toInt32))]))
  refine Go.step (fun _ k => XS.iand X0.here hx rfl (hb hby d_method_2_code_5) rfl k) ?_
  show Go p e below _ (s₁.setTop (mkF m 6 #[.val (.int p1), .unset] [(.int (((p1.toUInt32 >>> ((8 : Int32) &&& 31).toUInt32).toInt32) &&& (3 : Int32)))]))
  refine Go.step (fun _ k => XS.istoreN X0.here hx rfl (hb hby d_method_2_code_6) rfl (l' := #[.val (.int p1), .val (.int (((p1.toUInt32 >>> ((8 : Int32) &&& 31).toUInt32).toInt32) &&& (3 : Int32)))]) rfl k) ?_
  show Go p e below _ (s₁.setTop (mkF m 7 #[.val (.int p1), .val (.int (((p1.toUInt32 >>> ((8 : Int32) &&& 31).toUInt32).toInt32) &&& (3 : Int32)))] []))
  refine Go.step (fun _ k => XS.iloadN X0.here hx rfl (hb hby d_method_2_code_7) rfl  k) ?_
  show Go p e below _ (s₁.setTop (mkF m 8 #[.val (.int p1), .val (.int (((p1.toUInt32 >>> ((8 : Int32) &&& 31).toUInt32).toInt32) &&& (3 : Int32)))] [(.int (((p1.toUInt32 >>> ((8 : Int32) &&& 31).toUInt32).toInt32) &&& (3 : Int32)))]))
  by_cases h1 : (((p1.toUInt32 >>> ((8 : Int32) &&& 31).toUInt32).toInt32) &&& (3 : Int32)) = (0 : Int32)
  · skip
    refine Go.step (fun _ k => XS.ifNo X0.here hx rfl (hb hby d_method_2_code_8) rfl ((if0 _ _).trans (teq h1).2) k) ?_
    show Go p e below _ (s₁.setTop (mkF m 11 #[.val (.int p1), .val (.int (((p1.toUInt32 >>> ((8 : Int32) &&& 31).toUInt32).toInt32) &&& (3 : Int32)))] []))
    refine Go.step (fun _ k => XS.bipush X0.here hx rfl (hb hby d_method_2_code_11) k) ?_
    show Go p e below _ (s₁.setTop (mkF m 13 #[.val (.int p1), .val (.int (((p1.toUInt32 >>> ((8 : Int32) &&& 31).toUInt32).toInt32) &&& (3 : Int32)))] [(.int (32 : Int32))]))
    exact Go.retV X0 hx hlk hret rfl (Or.inl ⟨rfl, Or.inr (Or.inr (Or.inr (Or.inl rfl))), _, rfl⟩) (hb hby d_method_2_code_13) (by decide) (by decide) (by rw [e0]; exact ⟨(32 : Int32), rfl, N0, rfl, (by decide)⟩)
  · skip
    refine Go.step (fun _ k => XS.ifYes X0.here hx rfl (pc0 := 8) (pc' := 14) rfl (hb hby d_method_2_code_8) rfl ((if0 _ _).trans (feq h1).2) (by decide) (by decide) k) ?_
    show Go p e below _ (s₁.setTop (mkF m 14 #[.val (.int p1), .val (.int (((p1.toUInt32 >>> ((8 : Int32) &&& 31).toUInt32).toInt32) &&& (3 : Int32)))] []))
    refine Go.step (fun _ k => XS.iloadN X0.here hx rfl (hb hby d_method_2_code_14) rfl  k) ?_
    show Go p e below _ (s₁.setTop (mkF m 15 #[.val (.int p1), .val (.int (((p1.toUInt32 >>> ((8 : Int32) &&& 31).toUInt32).toInt32) &&& (3 : Int32)))] [(.int (((p1.toUInt32 >>> ((8 : Int32) &&& 31).toUInt32).toInt32) &&& (3 : Int32)))]))
    refine Go.step (fun _ k => XS.iconst X0.here hx rfl (hb hby d_method_2_code_15) k) ?_
    show Go p e below _ (s₁.setTop (mkF m 16 #[.val (.int p1), .val (.int (((p1.toUInt32 >>> ((8 : Int32) &&& 31).toUInt32).toInt32) &&& (3 : Int32)))] [(.int (1 : Int32)), (.int (((p1.toUInt32 >>> ((8 : Int32) &&& 31).toUInt32).toInt32) &&& (3 : Int32)))]))
    by_cases h2 : (((p1.toUInt32 >>> ((8 : Int32) &&& 31).toUInt32).toInt32) &&& (3 : Int32)) = (1 : Int32)
    · skip
      refine Go.step (fun _ k => XS.icmpNo X0.here hx rfl (hb hby d_method_2_code_16) rfl (teq h2).2 k) ?_
      show Go p e below _ (s₁.setTop (mkF m 19 #[.val (.int p1), .val (.int (((p1.toUInt32 >>> ((8 : Int32) &&& 31).toUInt32).toInt32) &&& (3 : Int32)))] []))
      refine Go.step (fun _ k => XS.bipush X0.here hx rfl (hb hby d_method_2_code_19) k) ?_
      show Go p e below _ (s₁.setTop (mkF m 21 #[.val (.int p1), .val (.int (((p1.toUInt32 >>> ((8 : Int32) &&& 31).toUInt32).toInt32) &&& (3 : Int32)))] [(.int (9 : Int32))]))
      exact Go.retV X0 hx hlk hret rfl (Or.inl ⟨rfl, Or.inr (Or.inr (Or.inr (Or.inl rfl))), _, rfl⟩) (hb hby d_method_2_code_21) (by decide) (by decide) (by rw [e0]; exact ⟨(9 : Int32), rfl, N0, rfl, (by decide)⟩)
    · skip
      refine Go.step (fun _ k => XS.icmpYes X0.here hx rfl (pc0 := 16) (pc' := 22) rfl (hb hby d_method_2_code_16) rfl (feq h2).2 (by decide) (by decide) k) ?_
      show Go p e below _ (s₁.setTop (mkF m 22 #[.val (.int p1), .val (.int (((p1.toUInt32 >>> ((8 : Int32) &&& 31).toUInt32).toInt32) &&& (3 : Int32)))] []))
      refine Go.step (fun _ k => XS.iloadN X0.here hx rfl (hb hby d_method_2_code_22) rfl  k) ?_
      show Go p e below _ (s₁.setTop (mkF m 23 #[.val (.int p1), .val (.int (((p1.toUInt32 >>> ((8 : Int32) &&& 31).toUInt32).toInt32) &&& (3 : Int32)))] [(.int p1)]))
      refine Go.step (fun _ k => XS.sipush X0.here hx rfl (hb hby d_method_2_code_23) k) ?_
      show Go p e below _ (s₁.setTop (mkF m 26 #[.val (.int p1), .val (.int (((p1.toUInt32 >>> ((8 : Int32) &&& 31).toUInt32).toInt32) &&& (3 : Int32)))] [(.int (255 : Int32)), (.int p1)]))
      refine Go.step (fun _ k => XS.iand X0.here hx rfl (hb hby d_method_2_code_26) rfl k) ?_
      show Go p e below _ (s₁.setTop (mkF m 27 #[.val (.int p1), .val (.int (((p1.toUInt32 >>> ((8 : Int32) &&& 31).toUInt32).toInt32) &&& (3 : Int32)))] [(.int (p1 &&& (255 : Int32)))]))
      refine Go.step (fun _ k => XS.i2c X0.here hx rfl (hb hby d_method_2_code_27) rfl k) ?_
      show Go p e below _ (s₁.setTop (mkF m 28 #[.val (.int p1), .val (.int (((p1.toUInt32 >>> ((8 : Int32) &&& 31).toUInt32).toInt32) &&& (3 : Int32)))] [(.int (nar .char (p1 &&& (255 : Int32))))]))
      refine own_top (congrArg Value.int (show (nar .char (p1 &&& (255 : Int32))) = (p1 &&& (255 : Int32)) from nar255 _)) ?_
      show Go p e below _ (s₁.setTop (mkF m 28 #[.val (.int p1), .val (.int (((p1.toUInt32 >>> ((8 : Int32) &&& 31).toUInt32).toInt32) &&& (3 : Int32)))] [(.int (p1 &&& (255 : Int32)))]))
      exact Go.retV X0 hx hlk hret (congrArg Value.int (nar255 _)) (Or.inl ⟨rfl, Or.inr (Or.inr (Or.inr (Or.inl rfl))), _, rfl⟩) (hb hby d_method_2_code_28) (by decide) (by decide) (by rw [e0]; exact ⟨(p1 &&& (255 : Int32)), rfl, N0, rfl, (lat255 _)⟩)
--@E
--@C isSpace
def Q_isSpace (Z : State) (zc : Int32) (vfm : Value) (p1 : Int32) (h0 : Heap) (n0 : Nat) (v : Option Value) (h : Heap) (L : List Loc) : Prop := v = some (.int (if isp p1 then (1 : Int32) else 0)) ∧ Fr n0 L ∧ h = h0
set_option maxRecDepth 65536 in
set_option maxHeartbeats 40000000 in
theorem rm_isSpace (l : Launch) (Z : State) (a0 : Array Value) (hw : ∀ d ∈ tables_1, d.before a0 Z = true) (zc : Int32) (vfm : Value) (p1 : Int32) (h0 : Heap) (n0 : Nat) (Z0 : n0 ≤ h0.size) (hSt : St Z zc vfm) (hO : Old Z n0 h0) :
    CN l Z ({ cls := "com/example/sigyn/sigyn/sip/SipScanner", name := "isSpace", desc := "(C)Z" } : Jvm.MethodName) [(Jvm.Cond.code ({ cls := "com/example/sigyn/sigyn/sip/SipScanner", name := "isSpace", desc := "(C)Z" } : Jvm.MethodName) prog_48_method_13_code (1 : Nat) (Option.some Jvm.ClassFile.FieldType.boolean))] ({ frames := 0, cells := 0, slots := 0, locals := 0 } : Room) #[(.int p1)] h0 (Q_isSpace Z zc vfm p1 h0 n0) := by
  refine CN.of (L0 := #[.val (.int p1)]) (plainFor_of_name pn_1) (fun m => by first | (simp [entryFrame, mkF, argsToLocals, Value.category]; done) | rfl) ?_
  intro p e s m below meth c s₁ hx hby hml hret hlk hZ hown hnm X0 e0
  have N0 := Fr.nil n0
  have KP0 := Keep.refl h0 []
  have hSt_ := hSt
  obtain ⟨S_cs, n_cs, S_fm, r_fm⟩ := hSt_
  show Go p e below _ (s₁.setTop (mkF m 0 #[.val (.int p1)] []))
  refine Go.step (fun _ k => XS.iloadN X0.here hx rfl (hb hby d_prog_48_method_13_code_0) rfl  k) ?_
  show Go p e below _ (s₁.setTop (mkF m 1 #[.val (.int p1)] [(.int p1)]))
  refine Go.step (fun _ k => XS.bipush X0.here hx rfl (hb hby d_prog_48_method_13_code_1) k) ?_
  show Go p e below _ (s₁.setTop (mkF m 3 #[.val (.int p1)] [(.int (32 : Int32)), (.int p1)]))
  by_cases h1 : p1 = (32 : Int32)
  · skip
    refine Go.step (fun _ k => XS.icmpYes X0.here hx rfl (pc0 := 3) (pc' := 12) rfl (hb hby d_prog_48_method_13_code_3) rfl (teq h1).1 (by decide) (by decide) k) ?_
    show Go p e below _ (s₁.setTop (mkF m 12 #[.val (.int p1)] []))
    refine Go.step (fun _ k => XS.iconst X0.here hx rfl (hb hby d_prog_48_method_13_code_12) k) ?_
    show Go p e below _ (s₁.setTop (mkF m 13 #[.val (.int p1)] [(.int (1 : Int32))]))
    refine Go.step (fun _ k => XS.goto X0.here hx rfl (pc0 := 13) (pc' := 17) rfl (hb hby d_prog_48_method_13_code_13) (by decide) (by decide) k) ?_
    show Go p e below _ (s₁.setTop (mkF m 17 #[.val (.int p1)] [(.int (1 : Int32))]))
    exact Go.retV X0 hx hlk hret rfl (Or.inl ⟨rfl, Or.inr (Or.inl rfl), _, rfl⟩) (hb hby d_prog_48_method_13_code_17) (by decide) (by decide) (by rw [e0]; exact ⟨(by rw [if_pos (Or.inl h1)]), N0, rfl⟩)
  · skip
    refine Go.step (fun _ k => XS.icmpNo X0.here hx rfl (hb hby d_prog_48_method_13_code_3) rfl (feq h1).1 k) ?_
    show Go p e below _ (s₁.setTop (mkF m 6 #[.val (.int p1)] []))
    refine Go.step (fun _ k => XS.iloadN X0.here hx rfl (hb hby d_prog_48_method_13_code_6) rfl  k) ?_
    show Go p e below _ (s₁.setTop (mkF m 7 #[.val (.int p1)] [(.int p1)]))
    refine Go.step (fun _ k => XS.bipush X0.here hx rfl (hb hby d_prog_48_method_13_code_7) k) ?_
    show Go p e below _ (s₁.setTop (mkF m 9 #[.val (.int p1)] [(.int (9 : Int32)), (.int p1)]))
    by_cases h2 : p1 = (9 : Int32)
    · skip
      refine Go.step (fun _ k => XS.icmpNo X0.here hx rfl (hb hby d_prog_48_method_13_code_9) rfl (teq h2).2 k) ?_
      show Go p e below _ (s₁.setTop (mkF m 12 #[.val (.int p1)] []))
      refine Go.step (fun _ k => XS.iconst X0.here hx rfl (hb hby d_prog_48_method_13_code_12) k) ?_
      show Go p e below _ (s₁.setTop (mkF m 13 #[.val (.int p1)] [(.int (1 : Int32))]))
      refine Go.step (fun _ k => XS.goto X0.here hx rfl (pc0 := 13) (pc' := 17) rfl (hb hby d_prog_48_method_13_code_13) (by decide) (by decide) k) ?_
      show Go p e below _ (s₁.setTop (mkF m 17 #[.val (.int p1)] [(.int (1 : Int32))]))
      exact Go.retV X0 hx hlk hret rfl (Or.inl ⟨rfl, Or.inr (Or.inl rfl), _, rfl⟩) (hb hby d_prog_48_method_13_code_17) (by decide) (by decide) (by rw [e0]; exact ⟨(by rw [if_pos (Or.inr h2)]), N0, rfl⟩)
    · skip
      refine Go.step (fun _ k => XS.icmpYes X0.here hx rfl (pc0 := 9) (pc' := 16) rfl (hb hby d_prog_48_method_13_code_9) rfl (feq h2).2 (by decide) (by decide) k) ?_
      show Go p e below _ (s₁.setTop (mkF m 16 #[.val (.int p1)] []))
      refine Go.step (fun _ k => XS.iconst X0.here hx rfl (hb hby d_prog_48_method_13_code_16) k) ?_
      show Go p e below _ (s₁.setTop (mkF m 17 #[.val (.int p1)] [(.int (0 : Int32))]))
      exact Go.retV X0 hx hlk hret rfl (Or.inl ⟨rfl, Or.inr (Or.inl rfl), _, rfl⟩) (hb hby d_prog_48_method_13_code_17) (by decide) (by decide) (by rw [e0]; exact ⟨(by rw [if_neg (fun q => q.elim h1 h2)]), N0, rfl⟩)
--@E
--@C sp
def Q_sp (Z : State) (zc : Int32) (vfm : Value) (p1 : Int32) (h0 : Heap) (n0 : Nat) (v : Option Value) (h : Heap) (L : List Loc) : Prop := v = some (.int (if isp p1 then (1 : Int32) else 0)) ∧ Fr n0 L ∧ h = h0
set_option maxRecDepth 65536 in
set_option maxHeartbeats 40000000 in
theorem rm_sp (l : Launch) (Z : State) (a0 : Array Value) (hw : ∀ d ∈ tables_1, d.before a0 Z = true) (zc : Int32) (vfm : Value) (p1 : Int32) (h0 : Heap) (n0 : Nat) (Z0 : n0 ≤ h0.size) (hSt : St Z zc vfm) (hO : Old Z n0 h0) :
    CN l Z ({ cls := "com/example/sigyn/sigyn/sip/SipScannerAtEndPinLaw", name := "sp", desc := "(C)Z" } : Jvm.MethodName) [(Jvm.Cond.code ({ cls := "com/example/sigyn/sigyn/sip/SipScannerAtEndPinLaw", name := "sp", desc := "(C)Z" } : Jvm.MethodName) method_3_code (1 : Nat) (Option.some Jvm.ClassFile.FieldType.boolean))] ({ frames := 0, cells := 0, slots := 0, locals := 0 } : Room) #[(.int p1)] h0 (Q_sp Z zc vfm p1 h0 n0) := by
  refine CN.of (L0 := #[.val (.int p1)]) (plainFor_of_name pn_0) (fun m => by first | (simp [entryFrame, mkF, argsToLocals, Value.category]; done) | rfl) ?_
  intro p e s m below meth c s₁ hx hby hml hret hlk hZ hown hnm X0 e0
  have N0 := Fr.nil n0
  have KP0 := Keep.refl h0 []
  have hSt_ := hSt
  obtain ⟨S_cs, n_cs, S_fm, r_fm⟩ := hSt_
  show Go p e below _ (s₁.setTop (mkF m 0 #[.val (.int p1)] []))
  refine Go.step (fun _ k => XS.iloadN X0.here hx rfl (hb hby d_method_3_code_0) rfl  k) ?_
  show Go p e below _ (s₁.setTop (mkF m 1 #[.val (.int p1)] [(.int p1)]))
  refine Go.step (fun _ k => XS.bipush X0.here hx rfl (hb hby d_method_3_code_1) k) ?_
  show Go p e below _ (s₁.setTop (mkF m 3 #[.val (.int p1)] [(.int (32 : Int32)), (.int p1)]))
  by_cases h1 : p1 = (32 : Int32)
  · skip
    refine Go.step (fun _ k => XS.icmpYes X0.here hx rfl (pc0 := 3) (pc' := 12) rfl (hb hby d_method_3_code_3) rfl (teq h1).1 (by decide) (by decide) k) ?_
    show Go p e below _ (s₁.setTop (mkF m 12 #[.val (.int p1)] []))
    refine Go.step (fun _ k => XS.iconst X0.here hx rfl (hb hby d_method_3_code_12) k) ?_
    show Go p e below _ (s₁.setTop (mkF m 13 #[.val (.int p1)] [(.int (1 : Int32))]))
    refine Go.step (fun _ k => XS.goto X0.here hx rfl (pc0 := 13) (pc' := 17) rfl (hb hby d_method_3_code_13) (by decide) (by decide) k) ?_
    show Go p e below _ (s₁.setTop (mkF m 17 #[.val (.int p1)] [(.int (1 : Int32))]))
    exact Go.retV X0 hx hlk hret rfl (Or.inl ⟨rfl, Or.inr (Or.inl rfl), _, rfl⟩) (hb hby d_method_3_code_17) (by decide) (by decide) (by rw [e0]; exact ⟨(by rw [if_pos (Or.inl h1)]), N0, rfl⟩)
  · skip
    refine Go.step (fun _ k => XS.icmpNo X0.here hx rfl (hb hby d_method_3_code_3) rfl (feq h1).1 k) ?_
    show Go p e below _ (s₁.setTop (mkF m 6 #[.val (.int p1)] []))
    refine Go.step (fun _ k => XS.iloadN X0.here hx rfl (hb hby d_method_3_code_6) rfl  k) ?_
    show Go p e below _ (s₁.setTop (mkF m 7 #[.val (.int p1)] [(.int p1)]))
    refine Go.step (fun _ k => XS.bipush X0.here hx rfl (hb hby d_method_3_code_7) k) ?_
    show Go p e below _ (s₁.setTop (mkF m 9 #[.val (.int p1)] [(.int (9 : Int32)), (.int p1)]))
    by_cases h2 : p1 = (9 : Int32)
    · skip
      refine Go.step (fun _ k => XS.icmpNo X0.here hx rfl (hb hby d_method_3_code_9) rfl (teq h2).2 k) ?_
      show Go p e below _ (s₁.setTop (mkF m 12 #[.val (.int p1)] []))
      refine Go.step (fun _ k => XS.iconst X0.here hx rfl (hb hby d_method_3_code_12) k) ?_
      show Go p e below _ (s₁.setTop (mkF m 13 #[.val (.int p1)] [(.int (1 : Int32))]))
      refine Go.step (fun _ k => XS.goto X0.here hx rfl (pc0 := 13) (pc' := 17) rfl (hb hby d_method_3_code_13) (by decide) (by decide) k) ?_
      show Go p e below _ (s₁.setTop (mkF m 17 #[.val (.int p1)] [(.int (1 : Int32))]))
      exact Go.retV X0 hx hlk hret rfl (Or.inl ⟨rfl, Or.inr (Or.inl rfl), _, rfl⟩) (hb hby d_method_3_code_17) (by decide) (by decide) (by rw [e0]; exact ⟨(by rw [if_pos (Or.inr h2)]), N0, rfl⟩)
    · skip
      refine Go.step (fun _ k => XS.icmpYes X0.here hx rfl (pc0 := 9) (pc' := 16) rfl (hb hby d_method_3_code_9) rfl (feq h2).2 (by decide) (by decide) k) ?_
      show Go p e below _ (s₁.setTop (mkF m 16 #[.val (.int p1)] []))
      refine Go.step (fun _ k => XS.iconst X0.here hx rfl (hb hby d_method_3_code_16) k) ?_
      show Go p e below _ (s₁.setTop (mkF m 17 #[.val (.int p1)] [(.int (0 : Int32))]))
      exact Go.retV X0 hx hlk hret rfl (Or.inl ⟨rfl, Or.inr (Or.inl rfl), _, rfl⟩) (hb hby d_method_3_code_17) (by decide) (by decide) (by rw [e0]; exact ⟨(by rw [if_neg (fun q => q.elim h1 h2)]), N0, rfl⟩)
--@E
--@C init4e
def Q_init4e (Z : State) (zc : Int32) (vfm : Value) (a1 : Addr) (a2 : Addr) (h0 : Heap) (n0 : Nat) (v : Option Value) (h : Heap) (L : List Loc) : Prop := v = none ∧ Fr n0 L ∧ Keep h0 h [a1] ∧ Str Z h.size h a1 ([] : List Int32)
set_option maxRecDepth 65536 in
set_option maxHeartbeats 40000000 in
theorem rm_init4e (l : Launch) (Z : State) (a0 : Array Value) (hw : ∀ d ∈ tables_1, d.before a0 Z = true) (zc : Int32) (vfm : Value) (a1 : Addr) (a2 : Addr) (h0 : Heap) (n0 : Nat) (Z0 : n0 ≤ h0.size) (E_a1 : Exa Z h0 a1 "java/lang/String") (F_a1v : Fld Z h0 a1 "java/lang/String" "value" "[B" .null) (F_a1c : Fld Z h0 a1 "java/lang/String" "coder" "B" (.int (0 : Int32))) (g_a1 : n0 ≤ a1) (hSt : St Z zc vfm) (hO : Old Z n0 h0) :
    CW l Z EL ({ cls := "java/lang/String", name := "<init>", desc := "([CIILjava/lang/Void;)V" } : Jvm.MethodName) [(Jvm.Cond.code ({ cls := "java/lang/String", name := "<init>", desc := "([CIILjava/lang/Void;)V" } : Jvm.MethodName) jdk_42_method_149_code (6 : Nat) (Option.none : Option Jvm.ClassFile.FieldType))] ({ frames := 1, cells := 4, slots := 8, locals := 12 } : Room) #[(.ref a1), (.ref a2), (.int (0 : Int32)), (.int (0 : Int32)), .null] h0 (Q_init4e Z zc vfm a1 a2 h0 n0) := by
  refine CW.of (L0 := #[.val (.ref a1), .val (.ref a2), .val (.int (0 : Int32)), .val (.int (0 : Int32)), .val .null, .unset]) (plainFor_of_name pn_2) (fun m => by first | (simp [entryFrame, mkF, argsToLocals, Value.category]; done) | rfl) ?_
  intro p e s m below meth c s₁ hx hby hml hret hlk hZ hown hnm X0 e0 hS0 hk0 CV0 hh0
  have hEL := hEL_ (a0 := a0) hw
  have hwS := hwS_ hw
  have N0 := Fr.nil n0
  have KP0 := Keep.refl h0 [a1]
  have hSt_ := hSt
  obtain ⟨S_cs, n_cs, S_fm, r_fm⟩ := hSt_
  have Sf_a1 : Safe Z EL s.vm h0 a1 := own_safe_null hZ.alike E_a1 F_a1v (wd_6 hw)
  show Go p e below _ (s₁.setTop (mkF m 0 #[.val (.ref a1), .val (.ref a2), .val (.int (0 : Int32)), .val (.int (0 : Int32)), .val .null, .unset] []))
  refine Go.step (fun _ k => XS.aloadN X0.here hx rfl (hb hby d_jdk_42_method_149_code_0) rfl rfl k) ?_
  show Go p e below _ (s₁.setTop (mkF m 1 #[.val (.ref a1), .val (.ref a2), .val (.int (0 : Int32)), .val (.int (0 : Int32)), .val .null, .unset] [(.ref a1)]))
  obtain ⟨T_1, X_1, e_1, st_1⟩ := initO X0 hx hZ hown (wd_15 hw) (wd_16 hw) (wd_17 hw) e0 (g := (mkF m 1 #[.val (.ref a1), .val (.ref a2), .val (.int (0 : Int32)), .val (.int (0 : Int32)), .val .null, .unset] [(.ref a1)])) rfl (by rw [hml]; rfl) rfl (hb hby d_jdk_42_method_149_code_1) (by decide) (W := 0) (by show 2 * 0 + _ ≤ _; exact Nat.le_of_eq rfl) (by decide)
  refine Go.step st_1 ?_
  show Go p e below _ (T_1.setTop (mkF m 4 #[.val (.ref a1), .val (.ref a2), .val (.int (0 : Int32)), .val (.int (0 : Int32)), .val .null, .unset] []))
  refine Go.step (fun _ k => XS.iloadN X_1.here hx rfl (hb hby d_jdk_42_method_149_code_4) rfl  k) ?_
  show Go p e below _ (T_1.setTop (mkF m 5 #[.val (.ref a1), .val (.ref a2), .val (.int (0 : Int32)), .val (.int (0 : Int32)), .val .null, .unset] [(.int (0 : Int32))]))
  refine Go.step (fun _ k => XS.ifNo X_1.here hx rfl (hb hby d_jdk_42_method_149_code_5) rfl ((if0 _ _).trans (teq ((by decide) : (0 : Int32) = (0 : Int32))).2) k) ?_
  show Go p e below _ (T_1.setTop (mkF m 8 #[.val (.ref a1), .val (.ref a2), .val (.int (0 : Int32)), .val (.int (0 : Int32)), .val .null, .unset] []))
  refine Go.step (fun _ k => XS.aloadN X_1.here hx rfl (hb hby d_jdk_42_method_149_code_8) rfl rfl k) ?_
  show Go p e below _ (T_1.setTop (mkF m 9 #[.val (.ref a1), .val (.ref a2), .val (.int (0 : Int32)), .val (.int (0 : Int32)), .val .null, .unset] [(.ref a1)]))
  obtain ⟨a_2, T_2, h_2, k1_2, t_2, kb_2, X_2, e_2, E_2, hS_2, hk_2, hZ_2, hown_2, Ex_2, Fc_2, Fv_2, Av_2, lta_2, ltb_2, C_2, Lt_2, -, st_2⟩ := ldcCH X_1 hx hZ hown (wd_18 hw) hwS e_1 hS0 hk0 hEL (by decide) CV0 (vs := []) (z := (0 : Int32)) ⟨by decide, by decide⟩ (by decide) (by decide) (g := (mkF m 9 #[.val (.ref a1), .val (.ref a2), .val (.int (0 : Int32)), .val (.int (0 : Int32)), .val .null, .unset] [(.ref a1)])) rfl (hb hby d_jdk_42_method_149_code_9) (n := 0) (by decide) (by decide) (by decide) (by decide)
  refine Go.step st_2 ?_
  have CR_2 := CHr.trans (CHr.refl CV0) C_2
  have le_2 : h0.size ≤ h_2.size := E_2.1
  have KP_2 := KP0.ext E_2
  have O_2 := hO.ext E_2
  have Sx_2 : Str Z h_2.size h_2 a_2 ([] : List Int32) := ⟨t_2, kb_2, lta_2, ltb_2, Ex_2, Fv_2, Fc_2, Av_2, by decide, by decide⟩
  show Go p e below _ (T_2.setTop (mkF m 11 #[.val (.ref a1), .val (.ref a2), .val (.int (0 : Int32)), .val (.int (0 : Int32)), .val .null, .unset] [(.ref a_2), (.ref a1)]))
  have cp3 := Sx_2
  obtain ⟨t4, kb4, -, -, Ex4, Fv4, Fc4, Av4, hl4, hn4⟩ := cp3
  obtain ⟨T_5, X_5, e_5, st_5⟩ := getF X_2 hx hZ_2 hown_2 (host := "") (Or.inl (wd_24 hw)) Via.refl e_2 Fv4 (g := (mkF m 11 #[.val (.ref a1), .val (.ref a2), .val (.int (0 : Int32)), .val (.int (0 : Int32)), .val .null, .unset] [(.ref a_2), (.ref a1)])) rfl rfl (hb hby d_jdk_42_method_149_code_11)
  refine Go.step st_5 ?_
  show Go p e below _ (T_5.setTop (mkF m 14 #[.val (.ref a1), .val (.ref a2), .val (.int (0 : Int32)), .val (.int (0 : Int32)), .val .null, .unset] [(.ref t4), (.ref a1)]))
  have f6 : Exa Z h_2 a1 "java/lang/String" := (E_a1.ext E_2)
  have f7 : Fld Z h_2 a1 "java/lang/String" "value" "[B" .null := (F_a1v.ext E_2)
  obtain ⟨T_8, h_8, X_8, e_8, W_8, st_8⟩ := putF X_5 hx hZ_2 hown_2 (host := "") (Or.inl (wd_24 hw)) Via.refl e_5 f7 f6 (Or.inr ⟨(wd_20 hw), rfl, hnm⟩) (wd_6 hw) (ty := (.array .byte)) pf_0 rfl rfl (g := (mkF m 14 #[.val (.ref a1), .val (.ref a2), .val (.int (0 : Int32)), .val (.int (0 : Int32)), .val .null, .unset] [(.ref t4), (.ref a1)])) rfl rfl (hb hby d_jdk_42_method_149_code_14)
  refine Go.step st_8 ?_
  have N_8 := Fr.snoc X_8 N0 g_a1
  have C_8 := CHr.wr W_8 (CHr.safe C_2 E_a1.lt Sf_a1) C_2.1
  have CR_8 := CHr.trans CR_2 C_8
  have le_8 : h_2.size ≤ h_8.size := Nat.le_of_eq W_8.size.symm
  have KP_8 := KP_2.wr W_8 (Or.inl (List.mem_of_getElem? (i := 0) rfl))
  have O_8 := O_2.wr W_8 g_a1
  have F_8 : Fld Z h_8 a1 "java/lang/String" "value" "[B" (.ref t4) := f7.same W_8
  show Go p e below _ (T_8.setTop (mkF m 17 #[.val (.ref a1), .val (.ref a2), .val (.int (0 : Int32)), .val (.int (0 : Int32)), .val .null, .unset] []))
  refine Go.step (fun _ k => XS.aloadN X_8.here hx rfl (hb hby d_jdk_42_method_149_code_17) rfl rfl k) ?_
  show Go p e below _ (T_8.setTop (mkF m 18 #[.val (.ref a1), .val (.ref a2), .val (.int (0 : Int32)), .val (.int (0 : Int32)), .val .null, .unset] [(.ref a1)]))
  obtain ⟨a_9, T_9, h_9, k1_9, t_9, kb_9, X_9, e_9, E_9, hS_9, hk_9, hZ_9, hown_9, Ex_9, Fc_9, Fv_9, Av_9, lta_9, ltb_9, C_9, Lt_9, -, st_9⟩ := ldcCH X_8 hx hZ_2 hown_2 (wd_18 hw) hwS e_8 hS_2 (Nat.le_trans hk_2 le_8) hEL (by decide) C_8.1 (vs := []) (z := (0 : Int32)) ⟨by decide, by decide⟩ (by decide) (by decide) (g := (mkF m 18 #[.val (.ref a1), .val (.ref a2), .val (.int (0 : Int32)), .val (.int (0 : Int32)), .val .null, .unset] [(.ref a1)])) rfl (hb hby d_jdk_42_method_149_code_18) (n := 0) (by decide) (by decide) (by decide) (by decide)
  refine Go.step st_9 ?_
  have CR_9 := CHr.trans CR_8 C_9
  have le_9 : h_8.size ≤ h_9.size := E_9.1
  have KP_9 := KP_8.ext E_9
  have O_9 := O_8.ext E_9
  have Sx_9 : Str Z h_9.size h_9 a_9 ([] : List Int32) := ⟨t_9, kb_9, lta_9, ltb_9, Ex_9, Fv_9, Fc_9, Av_9, by decide, by decide⟩
  show Go p e below _ (T_9.setTop (mkF m 20 #[.val (.ref a1), .val (.ref a2), .val (.int (0 : Int32)), .val (.int (0 : Int32)), .val .null, .unset] [(.ref a_9), (.ref a1)]))
  have cp10 := Sx_9
  obtain ⟨t11, kb11, -, -, Ex11, Fv11, Fc11, Av11, hl11, hn11⟩ := cp10
  obtain ⟨T_12, X_12, e_12, st_12⟩ := getF X_9 hx hZ_9 hown_9 (host := "") (Or.inl (wd_25 hw)) Via.refl e_9 Fc11 (g := (mkF m 20 #[.val (.ref a1), .val (.ref a2), .val (.int (0 : Int32)), .val (.int (0 : Int32)), .val .null, .unset] [(.ref a_9), (.ref a1)])) rfl rfl (hb hby d_jdk_42_method_149_code_20)
  refine Go.step st_12 ?_
  show Go p e below _ (T_12.setTop (mkF m 23 #[.val (.ref a1), .val (.ref a2), .val (.int (0 : Int32)), .val (.int (0 : Int32)), .val .null, .unset] [(.int (0 : Int32)), (.ref a1)]))
  have f13 : Exa Z h_9 a1 "java/lang/String" := ((f6.wr W_8).ext E_9)
  have f14 : Fld Z h_9 a1 "java/lang/String" "coder" "B" (.int (0 : Int32)) := (((F_a1c.ext E_2).other W_8 (Or.inr (sn_0 hw))).ext E_9)
  obtain ⟨T_15, h_15, X_15, e_15, W_15, st_15⟩ := putFN X_12 hx hZ_9 hown_9 (wd_25 hw) Via.refl e_12 f14 f13 (Or.inr ⟨(wd_21 hw), rfl, hnm⟩) (wd_6 hw) (ty := .byte) (v' := (.int (0 : Int32))) pf_1 rfl (by decide) (g := (mkF m 23 #[.val (.ref a1), .val (.ref a2), .val (.int (0 : Int32)), .val (.int (0 : Int32)), .val .null, .unset] [(.int (0 : Int32)), (.ref a1)])) rfl rfl (hb hby d_jdk_42_method_149_code_23)
  refine Go.step st_15 ?_
  have N_15 := Fr.snoc X_15 N_8 g_a1
  have C_15 := CHr.wr W_15 (CHr.safe (CHr.trans (CHr.trans C_2 C_8) C_9) E_a1.lt Sf_a1) C_9.1
  have CR_15 := CHr.trans CR_9 C_15
  have le_15 : h_9.size ≤ h_15.size := Nat.le_of_eq W_15.size.symm
  have KP_15 := KP_9.wr W_15 (Or.inl (List.mem_of_getElem? (i := 0) rfl))
  have O_15 := O_9.wr W_15 g_a1
  have F_15 : Fld Z h_15 a1 "java/lang/String" "coder" "B" (.int (0 : Int32)) := f14.same W_15
  show Go p e below _ (T_15.setTop (mkF m 26 #[.val (.ref a1), .val (.ref a2), .val (.int (0 : Int32)), .val (.int (0 : Int32)), .val .null, .unset] []))
  have f16 : Exa Z h_15 a1 "java/lang/String" := (f13.wr W_15)
  have f17 : Fld Z h_15 a1 "java/lang/String" "value" "[B" (.ref t4) := ((F_8.ext E_9).other W_15 (Or.inr (sn_1 hw)))
  have f18 : Arv Z h_15 t4 kb4 .byte (0 : Int32) [] (.int (0 : Int32)) := (((Av4.other W_8 (Ne.symm (Exa.neArv (E_a1.ext E_2) Av4 (wd_6 hw)))).ext E_9).other W_15 (Ne.symm (Exa.neArv (E_a1.ext E_2) Av4 (wd_6 hw))))
  have Sx19 : Str Z h_15.size h_15 a1 ([] : List Int32) := ⟨t4, kb4, f16.lt, f18.lt, f16, f17, F_15, f18, by decide, Nat.le_of_ble_eq_true rfl⟩
  exact Go.ret0W X_15 e_15 hS_9 (Nat.le_trans hk_9 le_15) hZ_9 hEL hh0 CR_15 hx hlk hret (hb hby d_jdk_42_method_149_code_26) (by decide) (by decide) (by rw [e_15]; exact ⟨rfl, N_15, KP_15, Sx19⟩)
--@E
--@C init1e
def Q_init1e (Z : State) (zc : Int32) (vfm : Value) (a1 : Addr) (a2 : Addr) (k2 : ClassId) (h0 : Heap) (n0 : Nat) (v : Option Value) (h : Heap) (L : List Loc) : Prop := v = none ∧ Fr n0 L ∧ Keep h0 h [a1] ∧ Str Z h.size h a1 ([] : List Int32)
set_option maxRecDepth 65536 in
set_option maxHeartbeats 40000000 in
theorem rm_init1e (l : Launch) (Z : State) (a0 : Array Value) (hw : ∀ d ∈ tables_1, d.before a0 Z = true) (zc : Int32) (vfm : Value) (a1 : Addr) (a2 : Addr) (k2 : ClassId) (h0 : Heap) (n0 : Nat) (Z0 : n0 ≤ h0.size) (E_a1 : Exa Z h0 a1 "java/lang/String") (F_a1v : Fld Z h0 a1 "java/lang/String" "value" "[B" .null) (F_a1c : Fld Z h0 a1 "java/lang/String" "coder" "B" (.int (0 : Int32))) (g_a1 : n0 ≤ a1) (A_a2 : Arv Z h0 a2 k2 .char (0 : Int32) [] (.int (0 : Int32))) (hSt : St Z zc vfm) (hO : Old Z n0 h0) :
    CW l Z EL ({ cls := "java/lang/String", name := "<init>", desc := "([C)V" } : Jvm.MethodName) [(Jvm.Cond.code ({ cls := "java/lang/String", name := "<init>", desc := "([C)V" } : Jvm.MethodName) jdk_42_method_3_code (2 : Nat) (Option.none : Option Jvm.ClassFile.FieldType))] ({ frames := 2, cells := 4, slots := 8, locals := 29 } : Room) #[(.ref a1), (.ref a2)] h0 (Q_init1e Z zc vfm a1 a2 k2 h0 n0) := by
  refine CW.of (L0 := #[.val (.ref a1), .val (.ref a2)]) (plainFor_of_name pn_2) (fun m => by first | (simp [entryFrame, mkF, argsToLocals, Value.category]; done) | rfl) ?_
  intro p e s m below meth c s₁ hx hby hml hret hlk hZ hown hnm X0 e0 hS0 hk0 CV0 hh0
  have hEL := hEL_ (a0 := a0) hw
  have hwS := hwS_ hw
  have N0 := Fr.nil n0
  have KP0 := Keep.refl h0 [a1]
  have hSt_ := hSt
  obtain ⟨S_cs, n_cs, S_fm, r_fm⟩ := hSt_
  have Sf_a1 : Safe Z EL s.vm h0 a1 := own_safe_null hZ.alike E_a1 F_a1v (wd_6 hw)
  show Go p e below _ (s₁.setTop (mkF m 0 #[.val (.ref a1), .val (.ref a2)] []))
  refine Go.step (fun _ k => XS.aloadN X0.here hx rfl (hb hby d_jdk_42_method_3_code_0) rfl rfl k) ?_
  show Go p e below _ (s₁.setTop (mkF m 1 #[.val (.ref a1), .val (.ref a2)] [(.ref a1)]))
  refine Go.step (fun _ k => XS.aloadN X0.here hx rfl (hb hby d_jdk_42_method_3_code_1) rfl rfl k) ?_
  show Go p e below _ (s₁.setTop (mkF m 2 #[.val (.ref a1), .val (.ref a2)] [(.ref a2), (.ref a1)]))
  refine Go.step (fun _ k => XS.iconst X0.here hx rfl (hb hby d_jdk_42_method_3_code_2) k) ?_
  show Go p e below _ (s₁.setTop (mkF m 3 #[.val (.ref a1), .val (.ref a2)] [(.int (0 : Int32)), (.ref a2), (.ref a1)]))
  refine Go.step (fun _ k => XS.aloadN X0.here hx rfl (hb hby d_jdk_42_method_3_code_3) rfl rfl k) ?_
  show Go p e below _ (s₁.setTop (mkF m 4 #[.val (.ref a1), .val (.ref a2)] [(.ref a2), (.int (0 : Int32)), (.ref a2), (.ref a1)]))
  have cp21 := A_a2
  obtain ⟨cl_20, Ar_20, -, Sz_20, Ng_20, -, -⟩ := cp21
  refine Go.step (fun _ k => X0.arraylength hx (by rw [e0]; exact Ar_20.1) (State.isArrayOf_alike hZ.alike Ar_20.2.1) (g := (mkF m 4 #[.val (.ref a1), .val (.ref a2)] [(.ref a2), (.int (0 : Int32)), (.ref a2), (.ref a1)])) rfl rfl (hb hby d_jdk_42_method_3_code_4) _ k) ?_
  rw [len_of Sz_20 Ng_20]
  show Go p e below _ (s₁.setTop (mkF m 5 #[.val (.ref a1), .val (.ref a2)] [(.int (0 : Int32)), (.int (0 : Int32)), (.ref a2), (.ref a1)]))
  refine Go.step (fun _ k => XS.aconstNull X0.here hx rfl (hb hby d_jdk_42_method_3_code_5) k) ?_
  show Go p e below _ (s₁.setTop (mkF m 6 #[.val (.ref a1), .val (.ref a2)] [.null, (.int (0 : Int32)), (.int (0 : Int32)), (.ref a2), (.ref a1)]))
  obtain ⟨v_22, T_22, L_22, X_22, hQ_22, hS_22, hZ_22, hown_22, C_22, st_22⟩ := goCW X0 hx hZ (y := ({ cls := "java/lang/String", name := "<init>", desc := "([CIILjava/lang/Void;)V" } : Jvm.MethodName)) hown hS0 hk0 rfl (wd_11 hw) (wd_12 hw) (wd_14 hw) (by decide) (backOfSH (W := 0) (rm_init4e l Z a0 hw zc vfm (a1) (a2) h0 n0 (Nat.le_trans Z0 KP0.1) E_a1 F_a1v F_a1c g_a1 hSt hO) hZ (wd_14 hw) (wd_7 hw) (by decide) (by decide) hEL CV0) e0 (g := (mkF m 6 #[.val (.ref a1), .val (.ref a2)] [.null, (.int (0 : Int32)), (.int (0 : Int32)), (.ref a2), (.ref a1)])) rfl (by rw [hml]; rfl) (a := a1) (argsL := [(.ref a2), (.int (0 : Int32)), (.int (0 : Int32)), .null]) (rest := []) rfl (lenOf pd_0 rfl) rfl (by show 2 * 0 + _ ≤ _; exact Nat.le_of_eq rfl) (hb hby d_jdk_42_method_3_code_6) (by decide) (by decide)
  obtain ⟨rfl, Nq_22, K_22, u0_22⟩ := hQ_22
  have N_22 := Fr.app N0 Nq_22
  have CR_22 := CHr.trans (CHr.refl CV0) C_22
  have le_22 : h0.size ≤ T_22.heap.size := K_22.1
  have KP_22 := KP0.trans K_22 (allS (Or.inl (List.mem_of_getElem? (i := 0) rfl)) all0)
  have O_22 := hO.keep K_22 (allS g_a1 all0)
  refine Go.step st_22 ?_
  show Go p e below _ (T_22.setTop (mkF m 9 #[.val (.ref a1), .val (.ref a2)] []))
  exact Go.ret0W X_22 rfl hS_22 (Nat.le_refl _) hZ_22 hEL hh0 CR_22 hx hlk hret (hb hby d_jdk_42_method_3_code_9) (by decide) (by decide) (by exact ⟨rfl, N_22, KP_22, u0_22⟩)
--@E
--@C initSS
def Q_initSS (Z : State) (zc : Int32) (vfm : Value) (a1 : Addr) (t1 : Addr) (h0 : Heap) (n0 : Nat) (v : Option Value) (h : Heap) (L : List Loc) : Prop := v = none ∧ Fr n0 L ∧ Keep h0 h [a1] ∧ Fld Z h a1 "com/example/sigyn/sigyn/sip/SipScanner" "text" "Ljava/lang/String;" (.ref t1) ∧ Fld Z h a1 "com/example/sigyn/sigyn/sip/SipScanner" "pos" "I" (.int (0 : Int32))
set_option maxRecDepth 65536 in
set_option maxHeartbeats 40000000 in
theorem rm_initSS (l : Launch) (Z : State) (a0 : Array Value) (hw : ∀ d ∈ tables_1, d.before a0 Z = true) (zc : Int32) (vfm : Value) (a1 : Addr) (t1 : Addr) (h0 : Heap) (n0 : Nat) (Z0 : n0 ≤ h0.size) (E_a1 : Exa Z h0 a1 "com/example/sigyn/sigyn/sip/SipScanner") (F_t : Fld Z h0 a1 "com/example/sigyn/sigyn/sip/SipScanner" "text" "Ljava/lang/String;" .null) (F_p : Fld Z h0 a1 "com/example/sigyn/sigyn/sip/SipScanner" "pos" "I" (.int (0 : Int32))) (g_a1 : n0 ≤ a1) (hSt : St Z zc vfm) (hO : Old Z n0 h0) :
    CN l Z ({ cls := "com/example/sigyn/sigyn/sip/SipScanner", name := "<init>", desc := "(Ljava/lang/String;)V" } : Jvm.MethodName) [(Jvm.Cond.code ({ cls := "com/example/sigyn/sigyn/sip/SipScanner", name := "<init>", desc := "(Ljava/lang/String;)V" } : Jvm.MethodName) prog_48_method_1_code (2 : Nat) (Option.none : Option Jvm.ClassFile.FieldType))] ({ frames := 1, cells := 0, slots := 0, locals := 12 } : Room) #[(.ref a1), (.ref t1)] h0 (Q_initSS Z zc vfm a1 t1 h0 n0) := by
  refine CN.of (L0 := #[.val (.ref a1), .val (.ref t1)]) (plainFor_of_name pn_1) (fun m => by first | (simp [entryFrame, mkF, argsToLocals, Value.category]; done) | rfl) ?_
  intro p e s m below meth c s₁ hx hby hml hret hlk hZ hown hnm X0 e0
  have N0 := Fr.nil n0
  have KP0 := Keep.refl h0 [a1]
  have hSt_ := hSt
  obtain ⟨S_cs, n_cs, S_fm, r_fm⟩ := hSt_
  show Go p e below _ (s₁.setTop (mkF m 0 #[.val (.ref a1), .val (.ref t1)] []))
  refine Go.step (fun _ k => XS.aloadN X0.here hx rfl (hb hby d_prog_48_method_1_code_0) rfl rfl k) ?_
  show Go p e below _ (s₁.setTop (mkF m 1 #[.val (.ref a1), .val (.ref t1)] [(.ref a1)]))
  obtain ⟨T_23, X_23, e_23, st_23⟩ := initO X0 hx hZ hown (wd_32 hw) (wd_16 hw) (wd_17 hw) e0 (g := (mkF m 1 #[.val (.ref a1), .val (.ref t1)] [(.ref a1)])) rfl (by rw [hml]; rfl) rfl (hb hby d_prog_48_method_1_code_1) (by decide) (W := 0) (by show 2 * 0 + _ ≤ _; exact Nat.le_of_eq rfl) (by decide)
  refine Go.step st_23 ?_
  show Go p e below _ (T_23.setTop (mkF m 4 #[.val (.ref a1), .val (.ref t1)] []))
  refine Go.step (fun _ k => XS.aloadN X_23.here hx rfl (hb hby d_prog_48_method_1_code_4) rfl rfl k) ?_
  show Go p e below _ (T_23.setTop (mkF m 5 #[.val (.ref a1), .val (.ref t1)] [(.ref a1)]))
  refine Go.step (fun _ k => XS.aloadN X_23.here hx rfl (hb hby d_prog_48_method_1_code_5) rfl rfl k) ?_
  show Go p e below _ (T_23.setTop (mkF m 6 #[.val (.ref a1), .val (.ref t1)] [(.ref t1), (.ref a1)]))
  obtain ⟨T_24, h_24, X_24, e_24, W_24, st_24⟩ := putF X_23 hx hZ hown (host := "") (Or.inl (wd_33 hw)) Via.refl e_23 F_t E_a1 (Or.inr ⟨(wd_34 hw), rfl, hnm⟩) (wd_27 hw) (ty := (.object "java/lang/String")) pf_2 rfl rfl (g := (mkF m 6 #[.val (.ref a1), .val (.ref t1)] [(.ref t1), (.ref a1)])) rfl rfl (hb hby d_prog_48_method_1_code_6)
  refine Go.step st_24 ?_
  have N_24 := Fr.snoc X_24 N0 g_a1
  have le_24 : h0.size ≤ h_24.size := Nat.le_of_eq W_24.size.symm
  have KP_24 := KP0.wr W_24 (Or.inl (List.mem_of_getElem? (i := 0) rfl))
  have O_24 := hO.wr W_24 g_a1
  have F_24 : Fld Z h_24 a1 "com/example/sigyn/sigyn/sip/SipScanner" "text" "Ljava/lang/String;" (.ref t1) := F_t.same W_24
  show Go p e below _ (T_24.setTop (mkF m 9 #[.val (.ref a1), .val (.ref t1)] []))
  have f25 : Fld Z h_24 a1 "com/example/sigyn/sigyn/sip/SipScanner" "pos" "I" (.int (0 : Int32)) := (F_p.other W_24 (Or.inr (sn_2 hw)))
  exact Go.ret0 X_24 hx hlk hret (hb hby d_prog_48_method_1_code_9) (by decide) (by decide) (by rw [e_24]; exact ⟨rfl, N_24, KP_24, F_24, f25⟩)
--@E
--@C atEnd
def Q_atEnd (Z : State) (zc : Int32) (vfm : Value) (a1 : Addr) (i1 : Int32) (t1 : Addr) (cs : List Int32) (n1 : Int32) (h0 : Heap) (n0 : Nat) (v : Option Value) (h : Heap) (L : List Loc) : Prop := v = some (.int (if i1 = n1 then (1 : Int32) else 0)) ∧ Fr n0 L ∧ h = h0
set_option maxRecDepth 65536 in
set_option maxHeartbeats 40000000 in
theorem rm_atEnd (l : Launch) (Z : State) (a0 : Array Value) (hw : ∀ d ∈ tables_1, d.before a0 Z = true) (zc : Int32) (vfm : Value) (a1 : Addr) (i1 : Int32) (t1 : Addr) (cs : List Int32) (n1 : Int32) (h0 : Heap) (n0 : Nat) (Z0 : n0 ≤ h0.size) (F_t : Fld Z h0 a1 "com/example/sigyn/sigyn/sip/SipScanner" "text" "Ljava/lang/String;" (.ref t1)) (F_p : Fld Z h0 a1 "com/example/sigyn/sigyn/sip/SipScanner" "pos" "I" (.int i1)) (S_t1 : Str Z h0.size h0 t1 cs) (hlen : (Int32.ofNat cs.length = n1)) (hSt : St Z zc vfm) (hO : Old Z n0 h0) :
    CN l Z ({ cls := "com/example/sigyn/sigyn/sip/SipScanner", name := "atEnd", desc := "()Z" } : Jvm.MethodName) [(Jvm.Cond.code ({ cls := "com/example/sigyn/sigyn/sip/SipScanner", name := "atEnd", desc := "()Z" } : Jvm.MethodName) prog_48_method_2_code (1 : Nat) (Option.some Jvm.ClassFile.FieldType.boolean))] ({ frames := 2, cells := 0, slots := 0, locals := 26 } : Room) #[(.ref a1)] h0 (Q_atEnd Z zc vfm a1 i1 t1 cs n1 h0 n0) := by
  refine CN.of (L0 := #[.val (.ref a1)]) (plainFor_of_name pn_1) (fun m => by first | (simp [entryFrame, mkF, argsToLocals, Value.category]; done) | rfl) ?_
  intro p e s m below meth c s₁ hx hby hml hret hlk hZ hown hnm X0 e0
  have N0 := Fr.nil n0
  have KP0 := Keep.refl h0 []
  have hSt_ := hSt
  obtain ⟨S_cs, n_cs, S_fm, r_fm⟩ := hSt_
  show Go p e below _ (s₁.setTop (mkF m 0 #[.val (.ref a1)] []))
  refine Go.step (fun _ k => XS.aloadN X0.here hx rfl (hb hby d_prog_48_method_2_code_0) rfl rfl k) ?_
  show Go p e below _ (s₁.setTop (mkF m 1 #[.val (.ref a1)] [(.ref a1)]))
  obtain ⟨T_26, X_26, e_26, st_26⟩ := getF X0 hx hZ hown (host := "") (Or.inl (wd_40 hw)) Via.refl e0 F_p (g := (mkF m 1 #[.val (.ref a1)] [(.ref a1)])) rfl rfl (hb hby d_prog_48_method_2_code_1)
  refine Go.step st_26 ?_
  show Go p e below _ (T_26.setTop (mkF m 4 #[.val (.ref a1)] [(.int i1)]))
  refine Go.step (fun _ k => XS.aloadN X_26.here hx rfl (hb hby d_prog_48_method_2_code_4) rfl rfl k) ?_
  show Go p e below _ (T_26.setTop (mkF m 5 #[.val (.ref a1)] [(.ref a1), (.int i1)]))
  obtain ⟨T_27, X_27, e_27, st_27⟩ := getF X_26 hx hZ hown (host := "") (Or.inl (wd_33 hw)) Via.refl e_26 F_t (g := (mkF m 5 #[.val (.ref a1)] [(.ref a1), (.int i1)])) rfl rfl (hb hby d_prog_48_method_2_code_5)
  refine Go.step st_27 ?_
  show Go p e below _ (T_27.setTop (mkF m 8 #[.val (.ref a1)] [(.ref t1), (.int i1)]))
  have cp28 := S_t1
  obtain ⟨t29, kb29, -, -, Ex29, Fv29, Fc29, Av29, hl29, hn29⟩ := cp28
  obtain ⟨v_30, T_30, L_30, X_30, hQ_30, st_30⟩ := goV X_27 hx hZ (y := ({ cls := "java/lang/String", name := "length", desc := "()I" } : Jvm.MethodName)) (z := ({ cls := "java/lang/String", name := "length", desc := "()I" } : Jvm.MethodName)) (kc := 0) (ks := 0) (QQ := fun v h' L => v = some (.int (Int32.ofNat cs.length)) ∧ L = [] ∧ h' = h0) hown (wd_42 hw) (wd_43 hw) (notFace_of_selects (args := #[]) (mvT hZ (wd_45 hw))) (wd_45 hw) (wd_44 hw) (by decide) (StrChars.Road.lenW (W := 1) hZ (sw_wordsLen hw) (kI := 4) (wd_6 hw) Ex29 Fv29 Fc29 Av29 (StrChars.Road.codOf rfl (fun c hc => (hl29 c hc).2)) (up255 hl29) (S_cs.ext hO.2) n_cs hn29 (by decide) (by decide)) e_27 Ex29 (g := (mkF m 8 #[.val (.ref a1)] [(.ref t1), (.int i1)])) rfl (by rw [hml]; rfl) (argsL := []) (rest := [(.int i1)]) rfl (lenOf pd_1 rfl) rfl (by show 2 * 0 + _ ≤ _; exact Nat.le_of_eq rfl) (hb hby d_prog_48_method_2_code_8) (by decide) (by decide)
  obtain ⟨rfl, rfl, e_30⟩ := hQ_30
  have N_30 := Fr.app N0 (Fr.nil n0)
  refine Go.step st_30 ?_
  show Go p e below _ (T_30.setTop (mkF m 11 #[.val (.ref a1)] [(.int (Int32.ofNat cs.length)), (.int i1)]))
  by_cases h1 : i1 = (Int32.ofNat cs.length)
  · skip
    refine Go.step (fun _ k => XS.icmpNo X_30.here hx rfl (hb hby d_prog_48_method_2_code_11) rfl (teq h1).2 k) ?_
    show Go p e below _ (T_30.setTop (mkF m 14 #[.val (.ref a1)] []))
    refine Go.step (fun _ k => XS.iconst X_30.here hx rfl (hb hby d_prog_48_method_2_code_14) k) ?_
    show Go p e below _ (T_30.setTop (mkF m 15 #[.val (.ref a1)] [(.int (1 : Int32))]))
    refine Go.step (fun _ k => XS.goto X_30.here hx rfl (pc0 := 15) (pc' := 19) rfl (hb hby d_prog_48_method_2_code_15) (by decide) (by decide) k) ?_
    show Go p e below _ (T_30.setTop (mkF m 19 #[.val (.ref a1)] [(.int (1 : Int32))]))
    exact Go.retV X_30 hx hlk hret rfl (Or.inl ⟨rfl, Or.inr (Or.inl rfl), _, rfl⟩) (hb hby d_prog_48_method_2_code_19) (by decide) (by decide) (by rw [e_30]; exact ⟨(by rw [if_pos (h1.trans hlen)]), N_30, rfl⟩)
  · skip
    refine Go.step (fun _ k => XS.icmpYes X_30.here hx rfl (pc0 := 11) (pc' := 18) rfl (hb hby d_prog_48_method_2_code_11) rfl (feq h1).2 (by decide) (by decide) k) ?_
    show Go p e below _ (T_30.setTop (mkF m 18 #[.val (.ref a1)] []))
    refine Go.step (fun _ k => XS.iconst X_30.here hx rfl (hb hby d_prog_48_method_2_code_18) k) ?_
    show Go p e below _ (T_30.setTop (mkF m 19 #[.val (.ref a1)] [(.int (0 : Int32))]))
    exact Go.retV X_30 hx hlk hret rfl (Or.inl ⟨rfl, Or.inr (Or.inl rfl), _, rfl⟩) (hb hby d_prog_48_method_2_code_19) (by decide) (by decide) (by rw [e_30]; exact ⟨(by rw [if_neg (fun q => h1 (q.trans hlen.symm))]), N_30, rfl⟩)
--@E
--@C skip0
def Q_skip0 (Z : State) (zc : Int32) (vfm : Value) (a1 : Addr) (t1 : Addr) (h0 : Heap) (n0 : Nat) (v : Option Value) (h : Heap) (L : List Loc) : Prop := ∃ (v1 : Int32) (v2 : Int32), v = some (.int v2) ∧ Fr n0 L ∧ Keep h0 h [a1] ∧ Fld Z h a1 "com/example/sigyn/sigyn/sip/SipScanner" "text" "Ljava/lang/String;" (.ref t1) ∧ Fld Z h a1 "com/example/sigyn/sigyn/sip/SipScanner" "pos" "I" (.int v1) ∧ (v1 = (0 : Int32) ↔ (True))
set_option maxRecDepth 65536 in
set_option maxHeartbeats 40000000 in
theorem rm_skip0 (l : Launch) (Z : State) (a0 : Array Value) (hw : ∀ d ∈ tables_1, d.before a0 Z = true) (zc : Int32) (vfm : Value) (a1 : Addr) (t1 : Addr) (h0 : Heap) (n0 : Nat) (Z0 : n0 ≤ h0.size) (E_a1 : Exa Z h0 a1 "com/example/sigyn/sigyn/sip/SipScanner") (F_t : Fld Z h0 a1 "com/example/sigyn/sigyn/sip/SipScanner" "text" "Ljava/lang/String;" (.ref t1)) (F_p : Fld Z h0 a1 "com/example/sigyn/sigyn/sip/SipScanner" "pos" "I" (.int (0 : Int32))) (S_t1 : Str Z h0.size h0 t1 ([] : List Int32)) (g_a1 : n0 ≤ a1) (hSt : St Z zc vfm) (hO : Old Z n0 h0) :
    CN l Z ({ cls := "com/example/sigyn/sigyn/sip/SipScanner", name := "skipSpace", desc := "()I" } : Jvm.MethodName) [(Jvm.Cond.code ({ cls := "com/example/sigyn/sigyn/sip/SipScanner", name := "skipSpace", desc := "()I" } : Jvm.MethodName) prog_48_method_3_code (2 : Nat) (Option.some Jvm.ClassFile.FieldType.int))] ({ frames := 2, cells := 0, slots := 0, locals := 26 } : Room) #[(.ref a1)] h0 (Q_skip0 Z zc vfm a1 t1 h0 n0) := by
  refine CN.of (L0 := #[.val (.ref a1), .unset]) (plainFor_of_name pn_1) (fun m => by first | (simp [entryFrame, mkF, argsToLocals, Value.category]; done) | rfl) ?_
  intro p e s m below meth c s₁ hx hby hml hret hlk hZ hown hnm X0 e0
  have N0 := Fr.nil n0
  have KP0 := Keep.refl h0 [a1]
  have hSt_ := hSt
  obtain ⟨S_cs, n_cs, S_fm, r_fm⟩ := hSt_
  show Go p e below _ (s₁.setTop (mkF m 0 #[.val (.ref a1), .unset] []))
  refine Go.step (fun _ k => XS.aloadN X0.here hx rfl (hb hby d_prog_48_method_3_code_0) rfl rfl k) ?_
  show Go p e below _ (s₁.setTop (mkF m 1 #[.val (.ref a1), .unset] [(.ref a1)]))
  obtain ⟨T_31, X_31, e_31, st_31⟩ := getF X0 hx hZ hown (host := "") (Or.inl (wd_40 hw)) Via.refl e0 F_p (g := (mkF m 1 #[.val (.ref a1), .unset] [(.ref a1)])) rfl rfl (hb hby d_prog_48_method_3_code_1)
  refine Go.step st_31 ?_
  show Go p e below _ (T_31.setTop (mkF m 4 #[.val (.ref a1), .unset] [(.int (0 : Int32))]))
  refine Go.step (fun _ k => XS.istoreN X_31.here hx rfl (hb hby d_prog_48_method_3_code_4) rfl (l' := #[.val (.ref a1), .val (.int (0 : Int32))]) rfl k) ?_
  show Go p e below _ (T_31.setTop (mkF m 5 #[.val (.ref a1), .val (.int (0 : Int32))] []))
  refine Go.step (fun _ k => XS.aloadN X_31.here hx rfl (hb hby d_prog_48_method_3_code_5) rfl rfl k) ?_
  show Go p e below _ (T_31.setTop (mkF m 6 #[.val (.ref a1), .val (.int (0 : Int32))] [(.ref a1)]))
  obtain ⟨T_32, X_32, e_32, st_32⟩ := getF X_31 hx hZ hown (host := "") (Or.inl (wd_40 hw)) Via.refl e_31 F_p (g := (mkF m 6 #[.val (.ref a1), .val (.int (0 : Int32))] [(.ref a1)])) rfl rfl (hb hby d_prog_48_method_3_code_6)
  refine Go.step st_32 ?_
  show Go p e below _ (T_32.setTop (mkF m 9 #[.val (.ref a1), .val (.int (0 : Int32))] [(.int (0 : Int32))]))
  refine Go.step (fun _ k => XS.aloadN X_32.here hx rfl (hb hby d_prog_48_method_3_code_9) rfl rfl k) ?_
  show Go p e below _ (T_32.setTop (mkF m 10 #[.val (.ref a1), .val (.int (0 : Int32))] [(.ref a1), (.int (0 : Int32))]))
  obtain ⟨T_33, X_33, e_33, st_33⟩ := getF X_32 hx hZ hown (host := "") (Or.inl (wd_33 hw)) Via.refl e_32 F_t (g := (mkF m 10 #[.val (.ref a1), .val (.int (0 : Int32))] [(.ref a1), (.int (0 : Int32))])) rfl rfl (hb hby d_prog_48_method_3_code_10)
  refine Go.step st_33 ?_
  show Go p e below _ (T_33.setTop (mkF m 13 #[.val (.ref a1), .val (.int (0 : Int32))] [(.ref t1), (.int (0 : Int32))]))
  have cp34 := S_t1
  obtain ⟨t35, kb35, -, -, Ex35, Fv35, Fc35, Av35, hl35, hn35⟩ := cp34
  obtain ⟨v_36, T_36, L_36, X_36, hQ_36, st_36⟩ := goV X_33 hx hZ (y := ({ cls := "java/lang/String", name := "length", desc := "()I" } : Jvm.MethodName)) (z := ({ cls := "java/lang/String", name := "length", desc := "()I" } : Jvm.MethodName)) (kc := 0) (ks := 0) (QQ := fun v h' L => v = some (.int (0 : Int32)) ∧ L = [] ∧ h' = h0) hown (wd_42 hw) (wd_43 hw) (notFace_of_selects (args := #[]) (mvT hZ (wd_45 hw))) (wd_45 hw) (wd_44 hw) (by decide) (StrChars.Road.lenW (W := 1) hZ (sw_wordsLen hw) (kI := 4) (wd_6 hw) Ex35 Fv35 Fc35 Av35 (StrChars.Road.codOf rfl (fun c hc => (hl35 c hc).2)) (up255 hl35) (S_cs.ext hO.2) n_cs hn35 (by decide) (by decide)) e_33 Ex35 (g := (mkF m 13 #[.val (.ref a1), .val (.int (0 : Int32))] [(.ref t1), (.int (0 : Int32))])) rfl (by rw [hml]; rfl) (argsL := []) (rest := [(.int (0 : Int32))]) rfl (lenOf pd_1 rfl) rfl (by show 2 * 0 + _ ≤ _; exact Nat.le_of_eq rfl) (hb hby d_prog_48_method_3_code_13) (by decide) (by decide)
  obtain ⟨rfl, rfl, e_36⟩ := hQ_36
  have N_36 := Fr.app N0 (Fr.nil n0)
  refine Go.step st_36 ?_
  show Go p e below _ (T_36.setTop (mkF m 16 #[.val (.ref a1), .val (.int (0 : Int32))] [(.int (0 : Int32)), (.int (0 : Int32))]))
  refine Go.step (fun _ k => XS.icmpYes X_36.here hx rfl (pc0 := 16) (pc' := 49) rfl (hb hby d_prog_48_method_3_code_16) rfl (flt ((by decide) : ¬ ((0 : Int32) < (0 : Int32)))).2.1 (by decide) (by decide) k) ?_
  show Go p e below _ (T_36.setTop (mkF m 49 #[.val (.ref a1), .val (.int (0 : Int32))] []))
  refine Go.step (fun _ k => XS.aloadN X_36.here hx rfl (hb hby d_prog_48_method_3_code_49) rfl rfl k) ?_
  show Go p e below _ (T_36.setTop (mkF m 50 #[.val (.ref a1), .val (.int (0 : Int32))] [(.ref a1)]))
  obtain ⟨T_37, X_37, e_37, st_37⟩ := getF X_36 hx hZ hown (host := "") (Or.inl (wd_40 hw)) Via.refl e_36 F_p (g := (mkF m 50 #[.val (.ref a1), .val (.int (0 : Int32))] [(.ref a1)])) rfl rfl (hb hby d_prog_48_method_3_code_50)
  refine Go.step st_37 ?_
  show Go p e below _ (T_37.setTop (mkF m 53 #[.val (.ref a1), .val (.int (0 : Int32))] [(.int (0 : Int32))]))
  refine Go.step (fun _ k => XS.iloadN X_37.here hx rfl (hb hby d_prog_48_method_3_code_53) rfl  k) ?_
  show Go p e below _ (T_37.setTop (mkF m 54 #[.val (.ref a1), .val (.int (0 : Int32))] [(.int (0 : Int32)), (.int (0 : Int32))]))
  refine Go.step (fun _ k => XS.isub X_37.here hx rfl (hb hby d_prog_48_method_3_code_54) rfl k) ?_
  show Go p e below _ (T_37.setTop (mkF m 55 #[.val (.ref a1), .val (.int (0 : Int32))] [(.int ((0 : Int32) - (0 : Int32)))]))
  refine own_top (congrArg Value.int (show ((0 : Int32) - (0 : Int32)) = (0 : Int32) from by decide)) ?_
  show Go p e below _ (T_37.setTop (mkF m 55 #[.val (.ref a1), .val (.int (0 : Int32))] [(.int (0 : Int32))]))
  exact Go.retV X_37 hx hlk hret rfl (Or.inl ⟨rfl, Or.inl rfl, _, rfl⟩) (hb hby d_prog_48_method_3_code_55) (by decide) (by decide) (by rw [e_37]; exact ⟨(0 : Int32), (0 : Int32), rfl, N_36, KP0, F_t, F_p, ⟨fun _ => trivial, fun _ => rfl⟩⟩)
--@E
--@C skip1
def Q_skip1 (Z : State) (zc : Int32) (vfm : Value) (a1 : Addr) (t1 : Addr) (c0 : Int32) (h0 : Heap) (n0 : Nat) (v : Option Value) (h : Heap) (L : List Loc) : Prop := ∃ (v1 : Int32) (v2 : Int32), v = some (.int v2) ∧ Fr n0 L ∧ Keep h0 h [a1] ∧ Fld Z h a1 "com/example/sigyn/sigyn/sip/SipScanner" "text" "Ljava/lang/String;" (.ref t1) ∧ Fld Z h a1 "com/example/sigyn/sigyn/sip/SipScanner" "pos" "I" (.int v1) ∧ (v1 = (1 : Int32) ↔ (isp c0))
set_option maxRecDepth 65536 in
set_option maxHeartbeats 40000000 in
theorem rm_skip1 (l : Launch) (Z : State) (a0 : Array Value) (hw : ∀ d ∈ tables_1, d.before a0 Z = true) (zc : Int32) (vfm : Value) (a1 : Addr) (t1 : Addr) (c0 : Int32) (h0 : Heap) (n0 : Nat) (Z0 : n0 ≤ h0.size) (E_a1 : Exa Z h0 a1 "com/example/sigyn/sigyn/sip/SipScanner") (F_t : Fld Z h0 a1 "com/example/sigyn/sigyn/sip/SipScanner" "text" "Ljava/lang/String;" (.ref t1)) (F_p : Fld Z h0 a1 "com/example/sigyn/sigyn/sip/SipScanner" "pos" "I" (.int (0 : Int32))) (S_t1 : Str Z h0.size h0 t1 ([c0] : List Int32)) (g_a1 : n0 ≤ a1) (hSt : St Z zc vfm) (hO : Old Z n0 h0) :
    CN l Z ({ cls := "com/example/sigyn/sigyn/sip/SipScanner", name := "skipSpace", desc := "()I" } : Jvm.MethodName) [(Jvm.Cond.code ({ cls := "com/example/sigyn/sigyn/sip/SipScanner", name := "skipSpace", desc := "()I" } : Jvm.MethodName) prog_48_method_3_code (2 : Nat) (Option.some Jvm.ClassFile.FieldType.int))] ({ frames := 4, cells := 0, slots := 0, locals := 53 } : Room) #[(.ref a1)] h0 (Q_skip1 Z zc vfm a1 t1 c0 h0 n0) := by
  refine CN.of (L0 := #[.val (.ref a1), .unset]) (plainFor_of_name pn_1) (fun m => by first | (simp [entryFrame, mkF, argsToLocals, Value.category]; done) | rfl) ?_
  intro p e s m below meth c s₁ hx hby hml hret hlk hZ hown hnm X0 e0
  have N0 := Fr.nil n0
  have KP0 := Keep.refl h0 [a1]
  have hSt_ := hSt
  obtain ⟨S_cs, n_cs, S_fm, r_fm⟩ := hSt_
  show Go p e below _ (s₁.setTop (mkF m 0 #[.val (.ref a1), .unset] []))
  refine Go.step (fun _ k => XS.aloadN X0.here hx rfl (hb hby d_prog_48_method_3_code_0) rfl rfl k) ?_
  show Go p e below _ (s₁.setTop (mkF m 1 #[.val (.ref a1), .unset] [(.ref a1)]))
  obtain ⟨T_38, X_38, e_38, st_38⟩ := getF X0 hx hZ hown (host := "") (Or.inl (wd_40 hw)) Via.refl e0 F_p (g := (mkF m 1 #[.val (.ref a1), .unset] [(.ref a1)])) rfl rfl (hb hby d_prog_48_method_3_code_1)
  refine Go.step st_38 ?_
  show Go p e below _ (T_38.setTop (mkF m 4 #[.val (.ref a1), .unset] [(.int (0 : Int32))]))
  refine Go.step (fun _ k => XS.istoreN X_38.here hx rfl (hb hby d_prog_48_method_3_code_4) rfl (l' := #[.val (.ref a1), .val (.int (0 : Int32))]) rfl k) ?_
  show Go p e below _ (T_38.setTop (mkF m 5 #[.val (.ref a1), .val (.int (0 : Int32))] []))
  refine Go.step (fun _ k => XS.aloadN X_38.here hx rfl (hb hby d_prog_48_method_3_code_5) rfl rfl k) ?_
  show Go p e below _ (T_38.setTop (mkF m 6 #[.val (.ref a1), .val (.int (0 : Int32))] [(.ref a1)]))
  obtain ⟨T_39, X_39, e_39, st_39⟩ := getF X_38 hx hZ hown (host := "") (Or.inl (wd_40 hw)) Via.refl e_38 F_p (g := (mkF m 6 #[.val (.ref a1), .val (.int (0 : Int32))] [(.ref a1)])) rfl rfl (hb hby d_prog_48_method_3_code_6)
  refine Go.step st_39 ?_
  show Go p e below _ (T_39.setTop (mkF m 9 #[.val (.ref a1), .val (.int (0 : Int32))] [(.int (0 : Int32))]))
  refine Go.step (fun _ k => XS.aloadN X_39.here hx rfl (hb hby d_prog_48_method_3_code_9) rfl rfl k) ?_
  show Go p e below _ (T_39.setTop (mkF m 10 #[.val (.ref a1), .val (.int (0 : Int32))] [(.ref a1), (.int (0 : Int32))]))
  obtain ⟨T_40, X_40, e_40, st_40⟩ := getF X_39 hx hZ hown (host := "") (Or.inl (wd_33 hw)) Via.refl e_39 F_t (g := (mkF m 10 #[.val (.ref a1), .val (.int (0 : Int32))] [(.ref a1), (.int (0 : Int32))])) rfl rfl (hb hby d_prog_48_method_3_code_10)
  refine Go.step st_40 ?_
  show Go p e below _ (T_40.setTop (mkF m 13 #[.val (.ref a1), .val (.int (0 : Int32))] [(.ref t1), (.int (0 : Int32))]))
  have cp41 := S_t1
  obtain ⟨t42, kb42, -, -, Ex42, Fv42, Fc42, Av42, hl42, hn42⟩ := cp41
  obtain ⟨v_43, T_43, L_43, X_43, hQ_43, st_43⟩ := goV X_40 hx hZ (y := ({ cls := "java/lang/String", name := "length", desc := "()I" } : Jvm.MethodName)) (z := ({ cls := "java/lang/String", name := "length", desc := "()I" } : Jvm.MethodName)) (kc := 0) (ks := 0) (QQ := fun v h' L => v = some (.int (1 : Int32)) ∧ L = [] ∧ h' = h0) hown (wd_42 hw) (wd_43 hw) (notFace_of_selects (args := #[]) (mvT hZ (wd_45 hw))) (wd_45 hw) (wd_44 hw) (by decide) (StrChars.Road.lenW (W := 1) hZ (sw_wordsLen hw) (kI := 4) (wd_6 hw) Ex42 Fv42 Fc42 Av42 (StrChars.Road.codOf rfl (fun c hc => (hl42 c hc).2)) (up255 hl42) (S_cs.ext hO.2) n_cs hn42 (by decide) (by decide)) e_40 Ex42 (g := (mkF m 13 #[.val (.ref a1), .val (.int (0 : Int32))] [(.ref t1), (.int (0 : Int32))])) rfl (by rw [hml]; rfl) (argsL := []) (rest := [(.int (0 : Int32))]) rfl (lenOf pd_1 rfl) rfl (by show 2 * 0 + _ ≤ _; exact Nat.le_of_eq rfl) (hb hby d_prog_48_method_3_code_13) (by decide) (by decide)
  obtain ⟨rfl, rfl, e_43⟩ := hQ_43
  have N_43 := Fr.app N0 (Fr.nil n0)
  refine Go.step st_43 ?_
  show Go p e below _ (T_43.setTop (mkF m 16 #[.val (.ref a1), .val (.int (0 : Int32))] [(.int (1 : Int32)), (.int (0 : Int32))]))
  refine Go.step (fun _ k => XS.icmpNo X_43.here hx rfl (hb hby d_prog_48_method_3_code_16) rfl (tlt ((by decide) : (0 : Int32) < (1 : Int32))).2.1 k) ?_
  show Go p e below _ (T_43.setTop (mkF m 19 #[.val (.ref a1), .val (.int (0 : Int32))] []))
  refine Go.step (fun _ k => XS.aloadN X_43.here hx rfl (hb hby d_prog_48_method_3_code_19) rfl rfl k) ?_
  show Go p e below _ (T_43.setTop (mkF m 20 #[.val (.ref a1), .val (.int (0 : Int32))] [(.ref a1)]))
  obtain ⟨T_44, X_44, e_44, st_44⟩ := getF X_43 hx hZ hown (host := "") (Or.inl (wd_33 hw)) Via.refl e_43 F_t (g := (mkF m 20 #[.val (.ref a1), .val (.int (0 : Int32))] [(.ref a1)])) rfl rfl (hb hby d_prog_48_method_3_code_20)
  refine Go.step st_44 ?_
  show Go p e below _ (T_44.setTop (mkF m 23 #[.val (.ref a1), .val (.int (0 : Int32))] [(.ref t1)]))
  refine Go.step (fun _ k => XS.aloadN X_44.here hx rfl (hb hby d_prog_48_method_3_code_23) rfl rfl k) ?_
  show Go p e below _ (T_44.setTop (mkF m 24 #[.val (.ref a1), .val (.int (0 : Int32))] [(.ref a1), (.ref t1)]))
  obtain ⟨T_45, X_45, e_45, st_45⟩ := getF X_44 hx hZ hown (host := "") (Or.inl (wd_40 hw)) Via.refl e_44 F_p (g := (mkF m 24 #[.val (.ref a1), .val (.int (0 : Int32))] [(.ref a1), (.ref t1)])) rfl rfl (hb hby d_prog_48_method_3_code_24)
  refine Go.step st_45 ?_
  show Go p e below _ (T_45.setTop (mkF m 27 #[.val (.ref a1), .val (.int (0 : Int32))] [(.int (0 : Int32)), (.ref t1)]))
  have cp46 := S_t1
  obtain ⟨t47, kb47, -, -, Ex47, Fv47, Fc47, Av47, hl47, hn47⟩ := cp46
  obtain ⟨v_48, T_48, L_48, X_48, hQ_48, st_48⟩ := goV X_45 hx hZ (y := ({ cls := "java/lang/String", name := "charAt", desc := "(I)C" } : Jvm.MethodName)) (z := ({ cls := "java/lang/String", name := "charAt", desc := "(I)C" } : Jvm.MethodName)) (kc := 0) (ks := 0) (QQ := fun v h' L => v = some (.int c0) ∧ L = [] ∧ h' = h0) hown (wd_68 hw) (wd_69 hw) (notFace_of_selects (args := #[]) (mvT hZ (wd_71 hw))) (wd_71 hw) (wd_70 hw) (by decide) (StrChars.Road.chN (W := 0) hZ (sw_wordsChN hw) (kI := 4) (wd_6 hw) (i := 0) (j := (0 : Int32)) Ex47 Fv47 Fc47 Av47 (StrChars.Road.codOf rfl (fun c hc => (hl47 c hc).2)) (up255 hl47) (S_cs.ext hO.2) n_cs (S_fm.ext hO.2) r_fm hn47 (Nat.le_of_ble_eq_true rfl) rfl (by decide) (by decide)) e_45 Ex47 (g := (mkF m 27 #[.val (.ref a1), .val (.int (0 : Int32))] [(.int (0 : Int32)), (.ref t1)])) rfl (by rw [hml]; rfl) (argsL := [(.int (0 : Int32))]) (rest := []) rfl (lenOf pd_2 rfl) rfl (by show 2 * 0 + _ ≤ _; exact Nat.le_of_eq rfl) (hb hby d_prog_48_method_3_code_27) (by decide) (by decide)
  obtain ⟨rfl, rfl, e_48⟩ := hQ_48
  have N_48 := Fr.app N_43 (Fr.nil n0)
  refine Go.step st_48 ?_
  show Go p e below _ (T_48.setTop (mkF m 30 #[.val (.ref a1), .val (.int (0 : Int32))] [(.int c0)]))
  obtain ⟨v_49, T_49, L_49, X_49, hQ_49, st_49⟩ := goS X_48 hx hZ (y := ({ cls := "com/example/sigyn/sigyn/sip/SipScanner", name := "isSpace", desc := "(C)Z" } : Jvm.MethodName)) hown (wd_90 hw) (wd_91 hw) (wd_28 hw) (wd_92 hw) (by decide) (backOf (W := 0) (rm_isSpace l Z a0 hw zc vfm (c0) h0 n0 (Nat.le_trans Z0 KP0.1) hSt hO) hZ (wd_92 hw) (wd_28 hw) (by decide) (by decide)) e_48 (g := (mkF m 30 #[.val (.ref a1), .val (.int (0 : Int32))] [(.int c0)])) rfl (by rw [hml]; rfl) (argsL := [(.int c0)]) (rest := []) rfl (lenOf pd_3 rfl) rfl (by show 2 * 0 + _ ≤ _; exact Nat.le_of_eq rfl) (hb hby d_prog_48_method_3_code_30) (by decide) (by decide)
  obtain ⟨rfl, Nq_49, e_49⟩ := hQ_49
  have N_49 := Fr.app N_48 Nq_49
  refine Go.step st_49 ?_
  show Go p e below _ (T_49.setTop (mkF m 33 #[.val (.ref a1), .val (.int (0 : Int32))] [(.int (if isp c0 then (1 : Int32) else 0))]))
  by_cases y0 : isp c0
  · skip
    refine Go.step (fun _ k => XS.ifNo X_49.here hx rfl (hb hby d_prog_48_method_3_code_33) rfl ((if0 _ _).trans (feq (b01_ne y0)).1) k) ?_
    show Go p e below _ (T_49.setTop (mkF m 36 #[.val (.ref a1), .val (.int (0 : Int32))] []))
    refine Go.step (fun _ k => XS.aloadN X_49.here hx rfl (hb hby d_prog_48_method_3_code_36) rfl rfl k) ?_
    show Go p e below _ (T_49.setTop (mkF m 37 #[.val (.ref a1), .val (.int (0 : Int32))] [(.ref a1)]))
    refine Go.step (fun _ k => XS.dup X_49.here hx rfl (hb hby d_prog_48_method_3_code_37) rfl rfl k) ?_
    show Go p e below _ (T_49.setTop (mkF m 38 #[.val (.ref a1), .val (.int (0 : Int32))] [(.ref a1), (.ref a1)]))
    obtain ⟨T_50, X_50, e_50, st_50⟩ := getF X_49 hx hZ hown (host := "") (Or.inl (wd_40 hw)) Via.refl e_49 F_p (g := (mkF m 38 #[.val (.ref a1), .val (.int (0 : Int32))] [(.ref a1), (.ref a1)])) rfl rfl (hb hby d_prog_48_method_3_code_38)
    refine Go.step st_50 ?_
    show Go p e below _ (T_50.setTop (mkF m 41 #[.val (.ref a1), .val (.int (0 : Int32))] [(.int (0 : Int32)), (.ref a1)]))
    refine Go.step (fun _ k => XS.iconst X_50.here hx rfl (hb hby d_prog_48_method_3_code_41) k) ?_
    show Go p e below _ (T_50.setTop (mkF m 42 #[.val (.ref a1), .val (.int (0 : Int32))] [(.int (1 : Int32)), (.int (0 : Int32)), (.ref a1)]))
    refine Go.step (fun _ k => XS.iadd X_50.here hx rfl (hb hby d_prog_48_method_3_code_42) rfl k) ?_
    show Go p e below _ (T_50.setTop (mkF m 43 #[.val (.ref a1), .val (.int (0 : Int32))] [(.int ((0 : Int32) + (1 : Int32))), (.ref a1)]))
    refine own_top (congrArg Value.int (show ((0 : Int32) + (1 : Int32)) = (1 : Int32) from by decide)) ?_
    show Go p e below _ (T_50.setTop (mkF m 43 #[.val (.ref a1), .val (.int (0 : Int32))] [(.int (1 : Int32)), (.ref a1)]))
    obtain ⟨T_51, h_51, X_51, e_51, W_51, st_51⟩ := putF X_50 hx hZ hown (host := "") (Or.inl (wd_40 hw)) Via.refl e_50 F_p E_a1 (Or.inl (wd_41 hw)) (wd_27 hw) (ty := .int) pf_3 rfl rfl (g := (mkF m 43 #[.val (.ref a1), .val (.int (0 : Int32))] [(.int (1 : Int32)), (.ref a1)])) rfl rfl (hb hby d_prog_48_method_3_code_43)
    refine Go.step st_51 ?_
    have N_51 := Fr.snoc X_51 N_49 g_a1
    have le_51 : h0.size ≤ h_51.size := Nat.le_of_eq W_51.size.symm
    have KP_51 := KP0.wr W_51 (Or.inl (List.mem_of_getElem? (i := 0) rfl))
    have O_51 := hO.wr W_51 g_a1
    have F_51 : Fld Z h_51 a1 "com/example/sigyn/sigyn/sip/SipScanner" "pos" "I" (.int (1 : Int32)) := F_p.same W_51
    show Go p e below _ (T_51.setTop (mkF m 46 #[.val (.ref a1), .val (.int (0 : Int32))] []))
    refine Go.step (fun _ k => XS.goto X_51.here hx rfl (pc0 := 46) (pc' := 5) rfl (hb hby d_prog_48_method_3_code_46) (by decide) (by decide) k) ?_
    show Go p e below _ (T_51.setTop (mkF m 5 #[.val (.ref a1), .val (.int (0 : Int32))] []))
    refine Go.step (fun _ k => XS.aloadN X_51.here hx rfl (hb hby d_prog_48_method_3_code_5) rfl rfl k) ?_
    show Go p e below _ (T_51.setTop (mkF m 6 #[.val (.ref a1), .val (.int (0 : Int32))] [(.ref a1)]))
    obtain ⟨T_52, X_52, e_52, st_52⟩ := getF X_51 hx hZ hown (host := "") (Or.inl (wd_40 hw)) Via.refl e_51 F_51 (g := (mkF m 6 #[.val (.ref a1), .val (.int (0 : Int32))] [(.ref a1)])) rfl rfl (hb hby d_prog_48_method_3_code_6)
    refine Go.step st_52 ?_
    show Go p e below _ (T_52.setTop (mkF m 9 #[.val (.ref a1), .val (.int (0 : Int32))] [(.int (1 : Int32))]))
    refine Go.step (fun _ k => XS.aloadN X_52.here hx rfl (hb hby d_prog_48_method_3_code_9) rfl rfl k) ?_
    show Go p e below _ (T_52.setTop (mkF m 10 #[.val (.ref a1), .val (.int (0 : Int32))] [(.ref a1), (.int (1 : Int32))]))
    have f53 : Fld Z h_51 a1 "com/example/sigyn/sigyn/sip/SipScanner" "text" "Ljava/lang/String;" (.ref t1) := (F_t.other W_51 (Or.inr (sn_3 hw)))
    obtain ⟨T_54, X_54, e_54, st_54⟩ := getF X_52 hx hZ hown (host := "") (Or.inl (wd_33 hw)) Via.refl e_52 f53 (g := (mkF m 10 #[.val (.ref a1), .val (.int (0 : Int32))] [(.ref a1), (.int (1 : Int32))])) rfl rfl (hb hby d_prog_48_method_3_code_10)
    refine Go.step st_54 ?_
    show Go p e below _ (T_54.setTop (mkF m 13 #[.val (.ref a1), .val (.int (0 : Int32))] [(.ref t1), (.int (1 : Int32))]))
    have f55 : Str Z h0.size h_51 t1 ([c0] : List Int32) := (S_t1.wrE W_51 E_a1 (by decide) (wd_27 hw))
    have cp56 := f55
    obtain ⟨t57, kb57, -, -, Ex57, Fv57, Fc57, Av57, hl57, hn57⟩ := cp56
    obtain ⟨v_58, T_58, L_58, X_58, hQ_58, st_58⟩ := goV X_54 hx hZ (y := ({ cls := "java/lang/String", name := "length", desc := "()I" } : Jvm.MethodName)) (z := ({ cls := "java/lang/String", name := "length", desc := "()I" } : Jvm.MethodName)) (kc := 0) (ks := 0) (QQ := fun v h' L => v = some (.int (1 : Int32)) ∧ L = [] ∧ h' = h_51) hown (wd_42 hw) (wd_43 hw) (notFace_of_selects (args := #[]) (mvT hZ (wd_45 hw))) (wd_45 hw) (wd_44 hw) (by decide) (StrChars.Road.lenW (W := 1) hZ (sw_wordsLen hw) (kI := 4) (wd_6 hw) Ex57 Fv57 Fc57 Av57 (StrChars.Road.codOf rfl (fun c hc => (hl57 c hc).2)) (up255 hl57) (S_cs.ext O_51.2) n_cs hn57 (by decide) (by decide)) e_54 Ex57 (g := (mkF m 13 #[.val (.ref a1), .val (.int (0 : Int32))] [(.ref t1), (.int (1 : Int32))])) rfl (by rw [hml]; rfl) (argsL := []) (rest := [(.int (1 : Int32))]) rfl (lenOf pd_1 rfl) rfl (by show 2 * 0 + _ ≤ _; exact Nat.le_of_eq rfl) (hb hby d_prog_48_method_3_code_13) (by decide) (by decide)
    obtain ⟨rfl, rfl, e_58⟩ := hQ_58
    have N_58 := Fr.app N_51 (Fr.nil n0)
    refine Go.step st_58 ?_
    show Go p e below _ (T_58.setTop (mkF m 16 #[.val (.ref a1), .val (.int (0 : Int32))] [(.int (1 : Int32)), (.int (1 : Int32))]))
    refine Go.step (fun _ k => XS.icmpYes X_58.here hx rfl (pc0 := 16) (pc' := 49) rfl (hb hby d_prog_48_method_3_code_16) rfl (flt ((by decide) : ¬ ((1 : Int32) < (1 : Int32)))).2.1 (by decide) (by decide) k) ?_
    show Go p e below _ (T_58.setTop (mkF m 49 #[.val (.ref a1), .val (.int (0 : Int32))] []))
    refine Go.step (fun _ k => XS.aloadN X_58.here hx rfl (hb hby d_prog_48_method_3_code_49) rfl rfl k) ?_
    show Go p e below _ (T_58.setTop (mkF m 50 #[.val (.ref a1), .val (.int (0 : Int32))] [(.ref a1)]))
    obtain ⟨T_59, X_59, e_59, st_59⟩ := getF X_58 hx hZ hown (host := "") (Or.inl (wd_40 hw)) Via.refl e_58 F_51 (g := (mkF m 50 #[.val (.ref a1), .val (.int (0 : Int32))] [(.ref a1)])) rfl rfl (hb hby d_prog_48_method_3_code_50)
    refine Go.step st_59 ?_
    show Go p e below _ (T_59.setTop (mkF m 53 #[.val (.ref a1), .val (.int (0 : Int32))] [(.int (1 : Int32))]))
    refine Go.step (fun _ k => XS.iloadN X_59.here hx rfl (hb hby d_prog_48_method_3_code_53) rfl  k) ?_
    show Go p e below _ (T_59.setTop (mkF m 54 #[.val (.ref a1), .val (.int (0 : Int32))] [(.int (0 : Int32)), (.int (1 : Int32))]))
    refine Go.step (fun _ k => XS.isub X_59.here hx rfl (hb hby d_prog_48_method_3_code_54) rfl k) ?_
    show Go p e below _ (T_59.setTop (mkF m 55 #[.val (.ref a1), .val (.int (0 : Int32))] [(.int ((1 : Int32) - (0 : Int32)))]))
    refine own_top (congrArg Value.int (show ((1 : Int32) - (0 : Int32)) = (1 : Int32) from by decide)) ?_
    show Go p e below _ (T_59.setTop (mkF m 55 #[.val (.ref a1), .val (.int (0 : Int32))] [(.int (1 : Int32))]))
    exact Go.retV X_59 hx hlk hret rfl (Or.inl ⟨rfl, Or.inl rfl, _, rfl⟩) (hb hby d_prog_48_method_3_code_55) (by decide) (by decide) (by rw [e_59]; exact ⟨(1 : Int32), (1 : Int32), rfl, N_58, KP_51, f53, F_51, ⟨fun _ => y0, fun _ => rfl⟩⟩)
  · skip
    refine Go.step (fun _ k => XS.ifYes X_49.here hx rfl (pc0 := 33) (pc' := 49) rfl (hb hby d_prog_48_method_3_code_33) rfl ((if0 _ _).trans (teq (b01_eq y0)).1) (by decide) (by decide) k) ?_
    show Go p e below _ (T_49.setTop (mkF m 49 #[.val (.ref a1), .val (.int (0 : Int32))] []))
    refine Go.step (fun _ k => XS.aloadN X_49.here hx rfl (hb hby d_prog_48_method_3_code_49) rfl rfl k) ?_
    show Go p e below _ (T_49.setTop (mkF m 50 #[.val (.ref a1), .val (.int (0 : Int32))] [(.ref a1)]))
    obtain ⟨T_60, X_60, e_60, st_60⟩ := getF X_49 hx hZ hown (host := "") (Or.inl (wd_40 hw)) Via.refl e_49 F_p (g := (mkF m 50 #[.val (.ref a1), .val (.int (0 : Int32))] [(.ref a1)])) rfl rfl (hb hby d_prog_48_method_3_code_50)
    refine Go.step st_60 ?_
    show Go p e below _ (T_60.setTop (mkF m 53 #[.val (.ref a1), .val (.int (0 : Int32))] [(.int (0 : Int32))]))
    refine Go.step (fun _ k => XS.iloadN X_60.here hx rfl (hb hby d_prog_48_method_3_code_53) rfl  k) ?_
    show Go p e below _ (T_60.setTop (mkF m 54 #[.val (.ref a1), .val (.int (0 : Int32))] [(.int (0 : Int32)), (.int (0 : Int32))]))
    refine Go.step (fun _ k => XS.isub X_60.here hx rfl (hb hby d_prog_48_method_3_code_54) rfl k) ?_
    show Go p e below _ (T_60.setTop (mkF m 55 #[.val (.ref a1), .val (.int (0 : Int32))] [(.int ((0 : Int32) - (0 : Int32)))]))
    refine own_top (congrArg Value.int (show ((0 : Int32) - (0 : Int32)) = (0 : Int32) from by decide)) ?_
    show Go p e below _ (T_60.setTop (mkF m 55 #[.val (.ref a1), .val (.int (0 : Int32))] [(.int (0 : Int32))]))
    exact Go.retV X_60 hx hlk hret rfl (Or.inl ⟨rfl, Or.inl rfl, _, rfl⟩) (hb hby d_prog_48_method_3_code_55) (by decide) (by decide) (by rw [e_60]; exact ⟨(0 : Int32), (0 : Int32), rfl, N_49, KP0, F_t, F_p, ⟨fun q => absurd q (by decide), fun q => absurd q y0⟩⟩)
--@E
--@C skip2
def Q_skip2 (Z : State) (zc : Int32) (vfm : Value) (a1 : Addr) (t1 : Addr) (c0 : Int32) (c1 : Int32) (h0 : Heap) (n0 : Nat) (v : Option Value) (h : Heap) (L : List Loc) : Prop := ∃ (v1 : Int32) (v2 : Int32), v = some (.int v2) ∧ Fr n0 L ∧ Keep h0 h [a1] ∧ Fld Z h a1 "com/example/sigyn/sigyn/sip/SipScanner" "text" "Ljava/lang/String;" (.ref t1) ∧ Fld Z h a1 "com/example/sigyn/sigyn/sip/SipScanner" "pos" "I" (.int v1) ∧ (v1 = (2 : Int32) ↔ (isp c0 ∧ isp c1))
set_option maxRecDepth 65536 in
set_option maxHeartbeats 40000000 in
theorem rm_skip2 (l : Launch) (Z : State) (a0 : Array Value) (hw : ∀ d ∈ tables_1, d.before a0 Z = true) (zc : Int32) (vfm : Value) (a1 : Addr) (t1 : Addr) (c0 : Int32) (c1 : Int32) (h0 : Heap) (n0 : Nat) (Z0 : n0 ≤ h0.size) (E_a1 : Exa Z h0 a1 "com/example/sigyn/sigyn/sip/SipScanner") (F_t : Fld Z h0 a1 "com/example/sigyn/sigyn/sip/SipScanner" "text" "Ljava/lang/String;" (.ref t1)) (F_p : Fld Z h0 a1 "com/example/sigyn/sigyn/sip/SipScanner" "pos" "I" (.int (0 : Int32))) (S_t1 : Str Z h0.size h0 t1 ([c0, c1] : List Int32)) (g_a1 : n0 ≤ a1) (hSt : St Z zc vfm) (hO : Old Z n0 h0) :
    CN l Z ({ cls := "com/example/sigyn/sigyn/sip/SipScanner", name := "skipSpace", desc := "()I" } : Jvm.MethodName) [(Jvm.Cond.code ({ cls := "com/example/sigyn/sigyn/sip/SipScanner", name := "skipSpace", desc := "()I" } : Jvm.MethodName) prog_48_method_3_code (2 : Nat) (Option.some Jvm.ClassFile.FieldType.int))] ({ frames := 4, cells := 0, slots := 0, locals := 53 } : Room) #[(.ref a1)] h0 (Q_skip2 Z zc vfm a1 t1 c0 c1 h0 n0) := by
  refine CN.of (L0 := #[.val (.ref a1), .unset]) (plainFor_of_name pn_1) (fun m => by first | (simp [entryFrame, mkF, argsToLocals, Value.category]; done) | rfl) ?_
  intro p e s m below meth c s₁ hx hby hml hret hlk hZ hown hnm X0 e0
  have N0 := Fr.nil n0
  have KP0 := Keep.refl h0 [a1]
  have hSt_ := hSt
  obtain ⟨S_cs, n_cs, S_fm, r_fm⟩ := hSt_
  show Go p e below _ (s₁.setTop (mkF m 0 #[.val (.ref a1), .unset] []))
  refine Go.step (fun _ k => XS.aloadN X0.here hx rfl (hb hby d_prog_48_method_3_code_0) rfl rfl k) ?_
  show Go p e below _ (s₁.setTop (mkF m 1 #[.val (.ref a1), .unset] [(.ref a1)]))
  obtain ⟨T_61, X_61, e_61, st_61⟩ := getF X0 hx hZ hown (host := "") (Or.inl (wd_40 hw)) Via.refl e0 F_p (g := (mkF m 1 #[.val (.ref a1), .unset] [(.ref a1)])) rfl rfl (hb hby d_prog_48_method_3_code_1)
  refine Go.step st_61 ?_
  show Go p e below _ (T_61.setTop (mkF m 4 #[.val (.ref a1), .unset] [(.int (0 : Int32))]))
  refine Go.step (fun _ k => XS.istoreN X_61.here hx rfl (hb hby d_prog_48_method_3_code_4) rfl (l' := #[.val (.ref a1), .val (.int (0 : Int32))]) rfl k) ?_
  show Go p e below _ (T_61.setTop (mkF m 5 #[.val (.ref a1), .val (.int (0 : Int32))] []))
  refine Go.step (fun _ k => XS.aloadN X_61.here hx rfl (hb hby d_prog_48_method_3_code_5) rfl rfl k) ?_
  show Go p e below _ (T_61.setTop (mkF m 6 #[.val (.ref a1), .val (.int (0 : Int32))] [(.ref a1)]))
  obtain ⟨T_62, X_62, e_62, st_62⟩ := getF X_61 hx hZ hown (host := "") (Or.inl (wd_40 hw)) Via.refl e_61 F_p (g := (mkF m 6 #[.val (.ref a1), .val (.int (0 : Int32))] [(.ref a1)])) rfl rfl (hb hby d_prog_48_method_3_code_6)
  refine Go.step st_62 ?_
  show Go p e below _ (T_62.setTop (mkF m 9 #[.val (.ref a1), .val (.int (0 : Int32))] [(.int (0 : Int32))]))
  refine Go.step (fun _ k => XS.aloadN X_62.here hx rfl (hb hby d_prog_48_method_3_code_9) rfl rfl k) ?_
  show Go p e below _ (T_62.setTop (mkF m 10 #[.val (.ref a1), .val (.int (0 : Int32))] [(.ref a1), (.int (0 : Int32))]))
  obtain ⟨T_63, X_63, e_63, st_63⟩ := getF X_62 hx hZ hown (host := "") (Or.inl (wd_33 hw)) Via.refl e_62 F_t (g := (mkF m 10 #[.val (.ref a1), .val (.int (0 : Int32))] [(.ref a1), (.int (0 : Int32))])) rfl rfl (hb hby d_prog_48_method_3_code_10)
  refine Go.step st_63 ?_
  show Go p e below _ (T_63.setTop (mkF m 13 #[.val (.ref a1), .val (.int (0 : Int32))] [(.ref t1), (.int (0 : Int32))]))
  have cp64 := S_t1
  obtain ⟨t65, kb65, -, -, Ex65, Fv65, Fc65, Av65, hl65, hn65⟩ := cp64
  obtain ⟨v_66, T_66, L_66, X_66, hQ_66, st_66⟩ := goV X_63 hx hZ (y := ({ cls := "java/lang/String", name := "length", desc := "()I" } : Jvm.MethodName)) (z := ({ cls := "java/lang/String", name := "length", desc := "()I" } : Jvm.MethodName)) (kc := 0) (ks := 0) (QQ := fun v h' L => v = some (.int (2 : Int32)) ∧ L = [] ∧ h' = h0) hown (wd_42 hw) (wd_43 hw) (notFace_of_selects (args := #[]) (mvT hZ (wd_45 hw))) (wd_45 hw) (wd_44 hw) (by decide) (StrChars.Road.lenW (W := 1) hZ (sw_wordsLen hw) (kI := 4) (wd_6 hw) Ex65 Fv65 Fc65 Av65 (StrChars.Road.codOf rfl (fun c hc => (hl65 c hc).2)) (up255 hl65) (S_cs.ext hO.2) n_cs hn65 (by decide) (by decide)) e_63 Ex65 (g := (mkF m 13 #[.val (.ref a1), .val (.int (0 : Int32))] [(.ref t1), (.int (0 : Int32))])) rfl (by rw [hml]; rfl) (argsL := []) (rest := [(.int (0 : Int32))]) rfl (lenOf pd_1 rfl) rfl (by show 2 * 0 + _ ≤ _; exact Nat.le_of_eq rfl) (hb hby d_prog_48_method_3_code_13) (by decide) (by decide)
  obtain ⟨rfl, rfl, e_66⟩ := hQ_66
  have N_66 := Fr.app N0 (Fr.nil n0)
  refine Go.step st_66 ?_
  show Go p e below _ (T_66.setTop (mkF m 16 #[.val (.ref a1), .val (.int (0 : Int32))] [(.int (2 : Int32)), (.int (0 : Int32))]))
  refine Go.step (fun _ k => XS.icmpNo X_66.here hx rfl (hb hby d_prog_48_method_3_code_16) rfl (tlt ((by decide) : (0 : Int32) < (2 : Int32))).2.1 k) ?_
  show Go p e below _ (T_66.setTop (mkF m 19 #[.val (.ref a1), .val (.int (0 : Int32))] []))
  refine Go.step (fun _ k => XS.aloadN X_66.here hx rfl (hb hby d_prog_48_method_3_code_19) rfl rfl k) ?_
  show Go p e below _ (T_66.setTop (mkF m 20 #[.val (.ref a1), .val (.int (0 : Int32))] [(.ref a1)]))
  obtain ⟨T_67, X_67, e_67, st_67⟩ := getF X_66 hx hZ hown (host := "") (Or.inl (wd_33 hw)) Via.refl e_66 F_t (g := (mkF m 20 #[.val (.ref a1), .val (.int (0 : Int32))] [(.ref a1)])) rfl rfl (hb hby d_prog_48_method_3_code_20)
  refine Go.step st_67 ?_
  show Go p e below _ (T_67.setTop (mkF m 23 #[.val (.ref a1), .val (.int (0 : Int32))] [(.ref t1)]))
  refine Go.step (fun _ k => XS.aloadN X_67.here hx rfl (hb hby d_prog_48_method_3_code_23) rfl rfl k) ?_
  show Go p e below _ (T_67.setTop (mkF m 24 #[.val (.ref a1), .val (.int (0 : Int32))] [(.ref a1), (.ref t1)]))
  obtain ⟨T_68, X_68, e_68, st_68⟩ := getF X_67 hx hZ hown (host := "") (Or.inl (wd_40 hw)) Via.refl e_67 F_p (g := (mkF m 24 #[.val (.ref a1), .val (.int (0 : Int32))] [(.ref a1), (.ref t1)])) rfl rfl (hb hby d_prog_48_method_3_code_24)
  refine Go.step st_68 ?_
  show Go p e below _ (T_68.setTop (mkF m 27 #[.val (.ref a1), .val (.int (0 : Int32))] [(.int (0 : Int32)), (.ref t1)]))
  have cp69 := S_t1
  obtain ⟨t70, kb70, -, -, Ex70, Fv70, Fc70, Av70, hl70, hn70⟩ := cp69
  obtain ⟨v_71, T_71, L_71, X_71, hQ_71, st_71⟩ := goV X_68 hx hZ (y := ({ cls := "java/lang/String", name := "charAt", desc := "(I)C" } : Jvm.MethodName)) (z := ({ cls := "java/lang/String", name := "charAt", desc := "(I)C" } : Jvm.MethodName)) (kc := 0) (ks := 0) (QQ := fun v h' L => v = some (.int c0) ∧ L = [] ∧ h' = h0) hown (wd_68 hw) (wd_69 hw) (notFace_of_selects (args := #[]) (mvT hZ (wd_71 hw))) (wd_71 hw) (wd_70 hw) (by decide) (StrChars.Road.chN (W := 0) hZ (sw_wordsChN hw) (kI := 4) (wd_6 hw) (i := 0) (j := (0 : Int32)) Ex70 Fv70 Fc70 Av70 (StrChars.Road.codOf rfl (fun c hc => (hl70 c hc).2)) (up255 hl70) (S_cs.ext hO.2) n_cs (S_fm.ext hO.2) r_fm hn70 (Nat.le_of_ble_eq_true rfl) rfl (by decide) (by decide)) e_68 Ex70 (g := (mkF m 27 #[.val (.ref a1), .val (.int (0 : Int32))] [(.int (0 : Int32)), (.ref t1)])) rfl (by rw [hml]; rfl) (argsL := [(.int (0 : Int32))]) (rest := []) rfl (lenOf pd_2 rfl) rfl (by show 2 * 0 + _ ≤ _; exact Nat.le_of_eq rfl) (hb hby d_prog_48_method_3_code_27) (by decide) (by decide)
  obtain ⟨rfl, rfl, e_71⟩ := hQ_71
  have N_71 := Fr.app N_66 (Fr.nil n0)
  refine Go.step st_71 ?_
  show Go p e below _ (T_71.setTop (mkF m 30 #[.val (.ref a1), .val (.int (0 : Int32))] [(.int c0)]))
  obtain ⟨v_72, T_72, L_72, X_72, hQ_72, st_72⟩ := goS X_71 hx hZ (y := ({ cls := "com/example/sigyn/sigyn/sip/SipScanner", name := "isSpace", desc := "(C)Z" } : Jvm.MethodName)) hown (wd_90 hw) (wd_91 hw) (wd_28 hw) (wd_92 hw) (by decide) (backOf (W := 0) (rm_isSpace l Z a0 hw zc vfm (c0) h0 n0 (Nat.le_trans Z0 KP0.1) hSt hO) hZ (wd_92 hw) (wd_28 hw) (by decide) (by decide)) e_71 (g := (mkF m 30 #[.val (.ref a1), .val (.int (0 : Int32))] [(.int c0)])) rfl (by rw [hml]; rfl) (argsL := [(.int c0)]) (rest := []) rfl (lenOf pd_3 rfl) rfl (by show 2 * 0 + _ ≤ _; exact Nat.le_of_eq rfl) (hb hby d_prog_48_method_3_code_30) (by decide) (by decide)
  obtain ⟨rfl, Nq_72, e_72⟩ := hQ_72
  have N_72 := Fr.app N_71 Nq_72
  refine Go.step st_72 ?_
  show Go p e below _ (T_72.setTop (mkF m 33 #[.val (.ref a1), .val (.int (0 : Int32))] [(.int (if isp c0 then (1 : Int32) else 0))]))
  by_cases y0 : isp c0
  · skip
    refine Go.step (fun _ k => XS.ifNo X_72.here hx rfl (hb hby d_prog_48_method_3_code_33) rfl ((if0 _ _).trans (feq (b01_ne y0)).1) k) ?_
    show Go p e below _ (T_72.setTop (mkF m 36 #[.val (.ref a1), .val (.int (0 : Int32))] []))
    refine Go.step (fun _ k => XS.aloadN X_72.here hx rfl (hb hby d_prog_48_method_3_code_36) rfl rfl k) ?_
    show Go p e below _ (T_72.setTop (mkF m 37 #[.val (.ref a1), .val (.int (0 : Int32))] [(.ref a1)]))
    refine Go.step (fun _ k => XS.dup X_72.here hx rfl (hb hby d_prog_48_method_3_code_37) rfl rfl k) ?_
    show Go p e below _ (T_72.setTop (mkF m 38 #[.val (.ref a1), .val (.int (0 : Int32))] [(.ref a1), (.ref a1)]))
    obtain ⟨T_73, X_73, e_73, st_73⟩ := getF X_72 hx hZ hown (host := "") (Or.inl (wd_40 hw)) Via.refl e_72 F_p (g := (mkF m 38 #[.val (.ref a1), .val (.int (0 : Int32))] [(.ref a1), (.ref a1)])) rfl rfl (hb hby d_prog_48_method_3_code_38)
    refine Go.step st_73 ?_
    show Go p e below _ (T_73.setTop (mkF m 41 #[.val (.ref a1), .val (.int (0 : Int32))] [(.int (0 : Int32)), (.ref a1)]))
    refine Go.step (fun _ k => XS.iconst X_73.here hx rfl (hb hby d_prog_48_method_3_code_41) k) ?_
    show Go p e below _ (T_73.setTop (mkF m 42 #[.val (.ref a1), .val (.int (0 : Int32))] [(.int (1 : Int32)), (.int (0 : Int32)), (.ref a1)]))
    refine Go.step (fun _ k => XS.iadd X_73.here hx rfl (hb hby d_prog_48_method_3_code_42) rfl k) ?_
    show Go p e below _ (T_73.setTop (mkF m 43 #[.val (.ref a1), .val (.int (0 : Int32))] [(.int ((0 : Int32) + (1 : Int32))), (.ref a1)]))
    refine own_top (congrArg Value.int (show ((0 : Int32) + (1 : Int32)) = (1 : Int32) from by decide)) ?_
    show Go p e below _ (T_73.setTop (mkF m 43 #[.val (.ref a1), .val (.int (0 : Int32))] [(.int (1 : Int32)), (.ref a1)]))
    obtain ⟨T_74, h_74, X_74, e_74, W_74, st_74⟩ := putF X_73 hx hZ hown (host := "") (Or.inl (wd_40 hw)) Via.refl e_73 F_p E_a1 (Or.inl (wd_41 hw)) (wd_27 hw) (ty := .int) pf_3 rfl rfl (g := (mkF m 43 #[.val (.ref a1), .val (.int (0 : Int32))] [(.int (1 : Int32)), (.ref a1)])) rfl rfl (hb hby d_prog_48_method_3_code_43)
    refine Go.step st_74 ?_
    have N_74 := Fr.snoc X_74 N_72 g_a1
    have le_74 : h0.size ≤ h_74.size := Nat.le_of_eq W_74.size.symm
    have KP_74 := KP0.wr W_74 (Or.inl (List.mem_of_getElem? (i := 0) rfl))
    have O_74 := hO.wr W_74 g_a1
    have F_74 : Fld Z h_74 a1 "com/example/sigyn/sigyn/sip/SipScanner" "pos" "I" (.int (1 : Int32)) := F_p.same W_74
    show Go p e below _ (T_74.setTop (mkF m 46 #[.val (.ref a1), .val (.int (0 : Int32))] []))
    refine Go.step (fun _ k => XS.goto X_74.here hx rfl (pc0 := 46) (pc' := 5) rfl (hb hby d_prog_48_method_3_code_46) (by decide) (by decide) k) ?_
    show Go p e below _ (T_74.setTop (mkF m 5 #[.val (.ref a1), .val (.int (0 : Int32))] []))
    refine Go.step (fun _ k => XS.aloadN X_74.here hx rfl (hb hby d_prog_48_method_3_code_5) rfl rfl k) ?_
    show Go p e below _ (T_74.setTop (mkF m 6 #[.val (.ref a1), .val (.int (0 : Int32))] [(.ref a1)]))
    obtain ⟨T_75, X_75, e_75, st_75⟩ := getF X_74 hx hZ hown (host := "") (Or.inl (wd_40 hw)) Via.refl e_74 F_74 (g := (mkF m 6 #[.val (.ref a1), .val (.int (0 : Int32))] [(.ref a1)])) rfl rfl (hb hby d_prog_48_method_3_code_6)
    refine Go.step st_75 ?_
    show Go p e below _ (T_75.setTop (mkF m 9 #[.val (.ref a1), .val (.int (0 : Int32))] [(.int (1 : Int32))]))
    refine Go.step (fun _ k => XS.aloadN X_75.here hx rfl (hb hby d_prog_48_method_3_code_9) rfl rfl k) ?_
    show Go p e below _ (T_75.setTop (mkF m 10 #[.val (.ref a1), .val (.int (0 : Int32))] [(.ref a1), (.int (1 : Int32))]))
    have f76 : Fld Z h_74 a1 "com/example/sigyn/sigyn/sip/SipScanner" "text" "Ljava/lang/String;" (.ref t1) := (F_t.other W_74 (Or.inr (sn_3 hw)))
    obtain ⟨T_77, X_77, e_77, st_77⟩ := getF X_75 hx hZ hown (host := "") (Or.inl (wd_33 hw)) Via.refl e_75 f76 (g := (mkF m 10 #[.val (.ref a1), .val (.int (0 : Int32))] [(.ref a1), (.int (1 : Int32))])) rfl rfl (hb hby d_prog_48_method_3_code_10)
    refine Go.step st_77 ?_
    show Go p e below _ (T_77.setTop (mkF m 13 #[.val (.ref a1), .val (.int (0 : Int32))] [(.ref t1), (.int (1 : Int32))]))
    have f78 : Str Z h0.size h_74 t1 ([c0, c1] : List Int32) := (S_t1.wrE W_74 E_a1 (by decide) (wd_27 hw))
    have cp79 := f78
    obtain ⟨t80, kb80, -, -, Ex80, Fv80, Fc80, Av80, hl80, hn80⟩ := cp79
    obtain ⟨v_81, T_81, L_81, X_81, hQ_81, st_81⟩ := goV X_77 hx hZ (y := ({ cls := "java/lang/String", name := "length", desc := "()I" } : Jvm.MethodName)) (z := ({ cls := "java/lang/String", name := "length", desc := "()I" } : Jvm.MethodName)) (kc := 0) (ks := 0) (QQ := fun v h' L => v = some (.int (2 : Int32)) ∧ L = [] ∧ h' = h_74) hown (wd_42 hw) (wd_43 hw) (notFace_of_selects (args := #[]) (mvT hZ (wd_45 hw))) (wd_45 hw) (wd_44 hw) (by decide) (StrChars.Road.lenW (W := 1) hZ (sw_wordsLen hw) (kI := 4) (wd_6 hw) Ex80 Fv80 Fc80 Av80 (StrChars.Road.codOf rfl (fun c hc => (hl80 c hc).2)) (up255 hl80) (S_cs.ext O_74.2) n_cs hn80 (by decide) (by decide)) e_77 Ex80 (g := (mkF m 13 #[.val (.ref a1), .val (.int (0 : Int32))] [(.ref t1), (.int (1 : Int32))])) rfl (by rw [hml]; rfl) (argsL := []) (rest := [(.int (1 : Int32))]) rfl (lenOf pd_1 rfl) rfl (by show 2 * 0 + _ ≤ _; exact Nat.le_of_eq rfl) (hb hby d_prog_48_method_3_code_13) (by decide) (by decide)
    obtain ⟨rfl, rfl, e_81⟩ := hQ_81
    have N_81 := Fr.app N_74 (Fr.nil n0)
    refine Go.step st_81 ?_
    show Go p e below _ (T_81.setTop (mkF m 16 #[.val (.ref a1), .val (.int (0 : Int32))] [(.int (2 : Int32)), (.int (1 : Int32))]))
    refine Go.step (fun _ k => XS.icmpNo X_81.here hx rfl (hb hby d_prog_48_method_3_code_16) rfl (tlt ((by decide) : (1 : Int32) < (2 : Int32))).2.1 k) ?_
    show Go p e below _ (T_81.setTop (mkF m 19 #[.val (.ref a1), .val (.int (0 : Int32))] []))
    refine Go.step (fun _ k => XS.aloadN X_81.here hx rfl (hb hby d_prog_48_method_3_code_19) rfl rfl k) ?_
    show Go p e below _ (T_81.setTop (mkF m 20 #[.val (.ref a1), .val (.int (0 : Int32))] [(.ref a1)]))
    obtain ⟨T_82, X_82, e_82, st_82⟩ := getF X_81 hx hZ hown (host := "") (Or.inl (wd_33 hw)) Via.refl e_81 f76 (g := (mkF m 20 #[.val (.ref a1), .val (.int (0 : Int32))] [(.ref a1)])) rfl rfl (hb hby d_prog_48_method_3_code_20)
    refine Go.step st_82 ?_
    show Go p e below _ (T_82.setTop (mkF m 23 #[.val (.ref a1), .val (.int (0 : Int32))] [(.ref t1)]))
    refine Go.step (fun _ k => XS.aloadN X_82.here hx rfl (hb hby d_prog_48_method_3_code_23) rfl rfl k) ?_
    show Go p e below _ (T_82.setTop (mkF m 24 #[.val (.ref a1), .val (.int (0 : Int32))] [(.ref a1), (.ref t1)]))
    obtain ⟨T_83, X_83, e_83, st_83⟩ := getF X_82 hx hZ hown (host := "") (Or.inl (wd_40 hw)) Via.refl e_82 F_74 (g := (mkF m 24 #[.val (.ref a1), .val (.int (0 : Int32))] [(.ref a1), (.ref t1)])) rfl rfl (hb hby d_prog_48_method_3_code_24)
    refine Go.step st_83 ?_
    show Go p e below _ (T_83.setTop (mkF m 27 #[.val (.ref a1), .val (.int (0 : Int32))] [(.int (1 : Int32)), (.ref t1)]))
    have cp84 := f78
    obtain ⟨t85, kb85, -, -, Ex85, Fv85, Fc85, Av85, hl85, hn85⟩ := cp84
    obtain ⟨v_86, T_86, L_86, X_86, hQ_86, st_86⟩ := goV X_83 hx hZ (y := ({ cls := "java/lang/String", name := "charAt", desc := "(I)C" } : Jvm.MethodName)) (z := ({ cls := "java/lang/String", name := "charAt", desc := "(I)C" } : Jvm.MethodName)) (kc := 0) (ks := 0) (QQ := fun v h' L => v = some (.int c1) ∧ L = [] ∧ h' = h_74) hown (wd_68 hw) (wd_69 hw) (notFace_of_selects (args := #[]) (mvT hZ (wd_71 hw))) (wd_71 hw) (wd_70 hw) (by decide) (StrChars.Road.chN (W := 0) hZ (sw_wordsChN hw) (kI := 4) (wd_6 hw) (i := 1) (j := (1 : Int32)) Ex85 Fv85 Fc85 Av85 (StrChars.Road.codOf rfl (fun c hc => (hl85 c hc).2)) (up255 hl85) (S_cs.ext O_74.2) n_cs (S_fm.ext O_74.2) r_fm hn85 (Nat.le_of_ble_eq_true rfl) rfl (by decide) (by decide)) e_83 Ex85 (g := (mkF m 27 #[.val (.ref a1), .val (.int (0 : Int32))] [(.int (1 : Int32)), (.ref t1)])) rfl (by rw [hml]; rfl) (argsL := [(.int (1 : Int32))]) (rest := []) rfl (lenOf pd_2 rfl) rfl (by show 2 * 0 + _ ≤ _; exact Nat.le_of_eq rfl) (hb hby d_prog_48_method_3_code_27) (by decide) (by decide)
    obtain ⟨rfl, rfl, e_86⟩ := hQ_86
    have N_86 := Fr.app N_81 (Fr.nil n0)
    refine Go.step st_86 ?_
    show Go p e below _ (T_86.setTop (mkF m 30 #[.val (.ref a1), .val (.int (0 : Int32))] [(.int c1)]))
    obtain ⟨v_87, T_87, L_87, X_87, hQ_87, st_87⟩ := goS X_86 hx hZ (y := ({ cls := "com/example/sigyn/sigyn/sip/SipScanner", name := "isSpace", desc := "(C)Z" } : Jvm.MethodName)) hown (wd_90 hw) (wd_91 hw) (wd_28 hw) (wd_92 hw) (by decide) (backOf (W := 0) (rm_isSpace l Z a0 hw zc vfm (c1) h_74 n0 (Nat.le_trans Z0 KP_74.1) hSt O_74) hZ (wd_92 hw) (wd_28 hw) (by decide) (by decide)) e_86 (g := (mkF m 30 #[.val (.ref a1), .val (.int (0 : Int32))] [(.int c1)])) rfl (by rw [hml]; rfl) (argsL := [(.int c1)]) (rest := []) rfl (lenOf pd_3 rfl) rfl (by show 2 * 0 + _ ≤ _; exact Nat.le_of_eq rfl) (hb hby d_prog_48_method_3_code_30) (by decide) (by decide)
    obtain ⟨rfl, Nq_87, e_87⟩ := hQ_87
    have N_87 := Fr.app N_86 Nq_87
    refine Go.step st_87 ?_
    show Go p e below _ (T_87.setTop (mkF m 33 #[.val (.ref a1), .val (.int (0 : Int32))] [(.int (if isp c1 then (1 : Int32) else 0))]))
    by_cases y1 : isp c1
    · skip
      refine Go.step (fun _ k => XS.ifNo X_87.here hx rfl (hb hby d_prog_48_method_3_code_33) rfl ((if0 _ _).trans (feq (b01_ne y1)).1) k) ?_
      show Go p e below _ (T_87.setTop (mkF m 36 #[.val (.ref a1), .val (.int (0 : Int32))] []))
      refine Go.step (fun _ k => XS.aloadN X_87.here hx rfl (hb hby d_prog_48_method_3_code_36) rfl rfl k) ?_
      show Go p e below _ (T_87.setTop (mkF m 37 #[.val (.ref a1), .val (.int (0 : Int32))] [(.ref a1)]))
      refine Go.step (fun _ k => XS.dup X_87.here hx rfl (hb hby d_prog_48_method_3_code_37) rfl rfl k) ?_
      show Go p e below _ (T_87.setTop (mkF m 38 #[.val (.ref a1), .val (.int (0 : Int32))] [(.ref a1), (.ref a1)]))
      obtain ⟨T_88, X_88, e_88, st_88⟩ := getF X_87 hx hZ hown (host := "") (Or.inl (wd_40 hw)) Via.refl e_87 F_74 (g := (mkF m 38 #[.val (.ref a1), .val (.int (0 : Int32))] [(.ref a1), (.ref a1)])) rfl rfl (hb hby d_prog_48_method_3_code_38)
      refine Go.step st_88 ?_
      show Go p e below _ (T_88.setTop (mkF m 41 #[.val (.ref a1), .val (.int (0 : Int32))] [(.int (1 : Int32)), (.ref a1)]))
      refine Go.step (fun _ k => XS.iconst X_88.here hx rfl (hb hby d_prog_48_method_3_code_41) k) ?_
      show Go p e below _ (T_88.setTop (mkF m 42 #[.val (.ref a1), .val (.int (0 : Int32))] [(.int (1 : Int32)), (.int (1 : Int32)), (.ref a1)]))
      refine Go.step (fun _ k => XS.iadd X_88.here hx rfl (hb hby d_prog_48_method_3_code_42) rfl k) ?_
      show Go p e below _ (T_88.setTop (mkF m 43 #[.val (.ref a1), .val (.int (0 : Int32))] [(.int ((1 : Int32) + (1 : Int32))), (.ref a1)]))
      refine own_top (congrArg Value.int (show ((1 : Int32) + (1 : Int32)) = (2 : Int32) from by decide)) ?_
      show Go p e below _ (T_88.setTop (mkF m 43 #[.val (.ref a1), .val (.int (0 : Int32))] [(.int (2 : Int32)), (.ref a1)]))
      have f89 : Exa Z h_74 a1 "com/example/sigyn/sigyn/sip/SipScanner" := (E_a1.wr W_74)
      obtain ⟨T_90, h_90, X_90, e_90, W_90, st_90⟩ := putF X_88 hx hZ hown (host := "") (Or.inl (wd_40 hw)) Via.refl e_88 F_74 f89 (Or.inl (wd_41 hw)) (wd_27 hw) (ty := .int) pf_3 rfl rfl (g := (mkF m 43 #[.val (.ref a1), .val (.int (0 : Int32))] [(.int (2 : Int32)), (.ref a1)])) rfl rfl (hb hby d_prog_48_method_3_code_43)
      refine Go.step st_90 ?_
      have N_90 := Fr.snoc X_90 N_87 g_a1
      have le_90 : h_74.size ≤ h_90.size := Nat.le_of_eq W_90.size.symm
      have KP_90 := KP_74.wr W_90 (Or.inl (List.mem_of_getElem? (i := 0) rfl))
      have O_90 := O_74.wr W_90 g_a1
      have F_90 : Fld Z h_90 a1 "com/example/sigyn/sigyn/sip/SipScanner" "pos" "I" (.int (2 : Int32)) := F_74.same W_90
      show Go p e below _ (T_90.setTop (mkF m 46 #[.val (.ref a1), .val (.int (0 : Int32))] []))
      refine Go.step (fun _ k => XS.goto X_90.here hx rfl (pc0 := 46) (pc' := 5) rfl (hb hby d_prog_48_method_3_code_46) (by decide) (by decide) k) ?_
      show Go p e below _ (T_90.setTop (mkF m 5 #[.val (.ref a1), .val (.int (0 : Int32))] []))
      refine Go.step (fun _ k => XS.aloadN X_90.here hx rfl (hb hby d_prog_48_method_3_code_5) rfl rfl k) ?_
      show Go p e below _ (T_90.setTop (mkF m 6 #[.val (.ref a1), .val (.int (0 : Int32))] [(.ref a1)]))
      obtain ⟨T_91, X_91, e_91, st_91⟩ := getF X_90 hx hZ hown (host := "") (Or.inl (wd_40 hw)) Via.refl e_90 F_90 (g := (mkF m 6 #[.val (.ref a1), .val (.int (0 : Int32))] [(.ref a1)])) rfl rfl (hb hby d_prog_48_method_3_code_6)
      refine Go.step st_91 ?_
      show Go p e below _ (T_91.setTop (mkF m 9 #[.val (.ref a1), .val (.int (0 : Int32))] [(.int (2 : Int32))]))
      refine Go.step (fun _ k => XS.aloadN X_91.here hx rfl (hb hby d_prog_48_method_3_code_9) rfl rfl k) ?_
      show Go p e below _ (T_91.setTop (mkF m 10 #[.val (.ref a1), .val (.int (0 : Int32))] [(.ref a1), (.int (2 : Int32))]))
      have f92 : Fld Z h_90 a1 "com/example/sigyn/sigyn/sip/SipScanner" "text" "Ljava/lang/String;" (.ref t1) := (f76.other W_90 (Or.inr (sn_3 hw)))
      obtain ⟨T_93, X_93, e_93, st_93⟩ := getF X_91 hx hZ hown (host := "") (Or.inl (wd_33 hw)) Via.refl e_91 f92 (g := (mkF m 10 #[.val (.ref a1), .val (.int (0 : Int32))] [(.ref a1), (.int (2 : Int32))])) rfl rfl (hb hby d_prog_48_method_3_code_10)
      refine Go.step st_93 ?_
      show Go p e below _ (T_93.setTop (mkF m 13 #[.val (.ref a1), .val (.int (0 : Int32))] [(.ref t1), (.int (2 : Int32))]))
      have f94 : Str Z h0.size h_90 t1 ([c0, c1] : List Int32) := (f78.wrE W_90 (E_a1.wr W_74) (by decide) (wd_27 hw))
      have cp95 := f94
      obtain ⟨t96, kb96, -, -, Ex96, Fv96, Fc96, Av96, hl96, hn96⟩ := cp95
      obtain ⟨v_97, T_97, L_97, X_97, hQ_97, st_97⟩ := goV X_93 hx hZ (y := ({ cls := "java/lang/String", name := "length", desc := "()I" } : Jvm.MethodName)) (z := ({ cls := "java/lang/String", name := "length", desc := "()I" } : Jvm.MethodName)) (kc := 0) (ks := 0) (QQ := fun v h' L => v = some (.int (2 : Int32)) ∧ L = [] ∧ h' = h_90) hown (wd_42 hw) (wd_43 hw) (notFace_of_selects (args := #[]) (mvT hZ (wd_45 hw))) (wd_45 hw) (wd_44 hw) (by decide) (StrChars.Road.lenW (W := 1) hZ (sw_wordsLen hw) (kI := 4) (wd_6 hw) Ex96 Fv96 Fc96 Av96 (StrChars.Road.codOf rfl (fun c hc => (hl96 c hc).2)) (up255 hl96) (S_cs.ext O_90.2) n_cs hn96 (by decide) (by decide)) e_93 Ex96 (g := (mkF m 13 #[.val (.ref a1), .val (.int (0 : Int32))] [(.ref t1), (.int (2 : Int32))])) rfl (by rw [hml]; rfl) (argsL := []) (rest := [(.int (2 : Int32))]) rfl (lenOf pd_1 rfl) rfl (by show 2 * 0 + _ ≤ _; exact Nat.le_of_eq rfl) (hb hby d_prog_48_method_3_code_13) (by decide) (by decide)
      obtain ⟨rfl, rfl, e_97⟩ := hQ_97
      have N_97 := Fr.app N_90 (Fr.nil n0)
      refine Go.step st_97 ?_
      show Go p e below _ (T_97.setTop (mkF m 16 #[.val (.ref a1), .val (.int (0 : Int32))] [(.int (2 : Int32)), (.int (2 : Int32))]))
      refine Go.step (fun _ k => XS.icmpYes X_97.here hx rfl (pc0 := 16) (pc' := 49) rfl (hb hby d_prog_48_method_3_code_16) rfl (flt ((by decide) : ¬ ((2 : Int32) < (2 : Int32)))).2.1 (by decide) (by decide) k) ?_
      show Go p e below _ (T_97.setTop (mkF m 49 #[.val (.ref a1), .val (.int (0 : Int32))] []))
      refine Go.step (fun _ k => XS.aloadN X_97.here hx rfl (hb hby d_prog_48_method_3_code_49) rfl rfl k) ?_
      show Go p e below _ (T_97.setTop (mkF m 50 #[.val (.ref a1), .val (.int (0 : Int32))] [(.ref a1)]))
      obtain ⟨T_98, X_98, e_98, st_98⟩ := getF X_97 hx hZ hown (host := "") (Or.inl (wd_40 hw)) Via.refl e_97 F_90 (g := (mkF m 50 #[.val (.ref a1), .val (.int (0 : Int32))] [(.ref a1)])) rfl rfl (hb hby d_prog_48_method_3_code_50)
      refine Go.step st_98 ?_
      show Go p e below _ (T_98.setTop (mkF m 53 #[.val (.ref a1), .val (.int (0 : Int32))] [(.int (2 : Int32))]))
      refine Go.step (fun _ k => XS.iloadN X_98.here hx rfl (hb hby d_prog_48_method_3_code_53) rfl  k) ?_
      show Go p e below _ (T_98.setTop (mkF m 54 #[.val (.ref a1), .val (.int (0 : Int32))] [(.int (0 : Int32)), (.int (2 : Int32))]))
      refine Go.step (fun _ k => XS.isub X_98.here hx rfl (hb hby d_prog_48_method_3_code_54) rfl k) ?_
      show Go p e below _ (T_98.setTop (mkF m 55 #[.val (.ref a1), .val (.int (0 : Int32))] [(.int ((2 : Int32) - (0 : Int32)))]))
      refine own_top (congrArg Value.int (show ((2 : Int32) - (0 : Int32)) = (2 : Int32) from by decide)) ?_
      show Go p e below _ (T_98.setTop (mkF m 55 #[.val (.ref a1), .val (.int (0 : Int32))] [(.int (2 : Int32))]))
      exact Go.retV X_98 hx hlk hret rfl (Or.inl ⟨rfl, Or.inl rfl, _, rfl⟩) (hb hby d_prog_48_method_3_code_55) (by decide) (by decide) (by rw [e_98]; exact ⟨(2 : Int32), (2 : Int32), rfl, N_97, KP_90, f92, F_90, ⟨fun _ => ⟨y0, y1⟩, fun _ => rfl⟩⟩)
    · skip
      refine Go.step (fun _ k => XS.ifYes X_87.here hx rfl (pc0 := 33) (pc' := 49) rfl (hb hby d_prog_48_method_3_code_33) rfl ((if0 _ _).trans (teq (b01_eq y1)).1) (by decide) (by decide) k) ?_
      show Go p e below _ (T_87.setTop (mkF m 49 #[.val (.ref a1), .val (.int (0 : Int32))] []))
      refine Go.step (fun _ k => XS.aloadN X_87.here hx rfl (hb hby d_prog_48_method_3_code_49) rfl rfl k) ?_
      show Go p e below _ (T_87.setTop (mkF m 50 #[.val (.ref a1), .val (.int (0 : Int32))] [(.ref a1)]))
      obtain ⟨T_99, X_99, e_99, st_99⟩ := getF X_87 hx hZ hown (host := "") (Or.inl (wd_40 hw)) Via.refl e_87 F_74 (g := (mkF m 50 #[.val (.ref a1), .val (.int (0 : Int32))] [(.ref a1)])) rfl rfl (hb hby d_prog_48_method_3_code_50)
      refine Go.step st_99 ?_
      show Go p e below _ (T_99.setTop (mkF m 53 #[.val (.ref a1), .val (.int (0 : Int32))] [(.int (1 : Int32))]))
      refine Go.step (fun _ k => XS.iloadN X_99.here hx rfl (hb hby d_prog_48_method_3_code_53) rfl  k) ?_
      show Go p e below _ (T_99.setTop (mkF m 54 #[.val (.ref a1), .val (.int (0 : Int32))] [(.int (0 : Int32)), (.int (1 : Int32))]))
      refine Go.step (fun _ k => XS.isub X_99.here hx rfl (hb hby d_prog_48_method_3_code_54) rfl k) ?_
      show Go p e below _ (T_99.setTop (mkF m 55 #[.val (.ref a1), .val (.int (0 : Int32))] [(.int ((1 : Int32) - (0 : Int32)))]))
      refine own_top (congrArg Value.int (show ((1 : Int32) - (0 : Int32)) = (1 : Int32) from by decide)) ?_
      show Go p e below _ (T_99.setTop (mkF m 55 #[.val (.ref a1), .val (.int (0 : Int32))] [(.int (1 : Int32))]))
      exact Go.retV X_99 hx hlk hret rfl (Or.inl ⟨rfl, Or.inl rfl, _, rfl⟩) (hb hby d_prog_48_method_3_code_55) (by decide) (by decide) (by rw [e_99]; exact ⟨(1 : Int32), (1 : Int32), rfl, N_87, KP_74, f76, F_74, ⟨fun q => absurd q (by decide), fun q => absurd q.2 y1⟩⟩)
  · skip
    refine Go.step (fun _ k => XS.ifYes X_72.here hx rfl (pc0 := 33) (pc' := 49) rfl (hb hby d_prog_48_method_3_code_33) rfl ((if0 _ _).trans (teq (b01_eq y0)).1) (by decide) (by decide) k) ?_
    show Go p e below _ (T_72.setTop (mkF m 49 #[.val (.ref a1), .val (.int (0 : Int32))] []))
    refine Go.step (fun _ k => XS.aloadN X_72.here hx rfl (hb hby d_prog_48_method_3_code_49) rfl rfl k) ?_
    show Go p e below _ (T_72.setTop (mkF m 50 #[.val (.ref a1), .val (.int (0 : Int32))] [(.ref a1)]))
    obtain ⟨T_100, X_100, e_100, st_100⟩ := getF X_72 hx hZ hown (host := "") (Or.inl (wd_40 hw)) Via.refl e_72 F_p (g := (mkF m 50 #[.val (.ref a1), .val (.int (0 : Int32))] [(.ref a1)])) rfl rfl (hb hby d_prog_48_method_3_code_50)
    refine Go.step st_100 ?_
    show Go p e below _ (T_100.setTop (mkF m 53 #[.val (.ref a1), .val (.int (0 : Int32))] [(.int (0 : Int32))]))
    refine Go.step (fun _ k => XS.iloadN X_100.here hx rfl (hb hby d_prog_48_method_3_code_53) rfl  k) ?_
    show Go p e below _ (T_100.setTop (mkF m 54 #[.val (.ref a1), .val (.int (0 : Int32))] [(.int (0 : Int32)), (.int (0 : Int32))]))
    refine Go.step (fun _ k => XS.isub X_100.here hx rfl (hb hby d_prog_48_method_3_code_54) rfl k) ?_
    show Go p e below _ (T_100.setTop (mkF m 55 #[.val (.ref a1), .val (.int (0 : Int32))] [(.int ((0 : Int32) - (0 : Int32)))]))
    refine own_top (congrArg Value.int (show ((0 : Int32) - (0 : Int32)) = (0 : Int32) from by decide)) ?_
    show Go p e below _ (T_100.setTop (mkF m 55 #[.val (.ref a1), .val (.int (0 : Int32))] [(.int (0 : Int32))]))
    exact Go.retV X_100 hx hlk hret rfl (Or.inl ⟨rfl, Or.inl rfl, _, rfl⟩) (hb hby d_prog_48_method_3_code_55) (by decide) (by decide) (by rw [e_100]; exact ⟨(0 : Int32), (0 : Int32), rfl, N_72, KP0, F_t, F_p, ⟨fun q => absurd q (by decide), fun q => absurd q.1 y0⟩⟩)
--@E
--@C skip3
def Q_skip3 (Z : State) (zc : Int32) (vfm : Value) (a1 : Addr) (t1 : Addr) (c0 : Int32) (c1 : Int32) (c2 : Int32) (h0 : Heap) (n0 : Nat) (v : Option Value) (h : Heap) (L : List Loc) : Prop := ∃ (v1 : Int32) (v2 : Int32), v = some (.int v2) ∧ Fr n0 L ∧ Keep h0 h [a1] ∧ Fld Z h a1 "com/example/sigyn/sigyn/sip/SipScanner" "text" "Ljava/lang/String;" (.ref t1) ∧ Fld Z h a1 "com/example/sigyn/sigyn/sip/SipScanner" "pos" "I" (.int v1) ∧ (v1 = (3 : Int32) ↔ (isp c0 ∧ isp c1 ∧ isp c2))
set_option maxRecDepth 65536 in
set_option maxHeartbeats 40000000 in
theorem rm_skip3 (l : Launch) (Z : State) (a0 : Array Value) (hw : ∀ d ∈ tables_1, d.before a0 Z = true) (zc : Int32) (vfm : Value) (a1 : Addr) (t1 : Addr) (c0 : Int32) (c1 : Int32) (c2 : Int32) (h0 : Heap) (n0 : Nat) (Z0 : n0 ≤ h0.size) (E_a1 : Exa Z h0 a1 "com/example/sigyn/sigyn/sip/SipScanner") (F_t : Fld Z h0 a1 "com/example/sigyn/sigyn/sip/SipScanner" "text" "Ljava/lang/String;" (.ref t1)) (F_p : Fld Z h0 a1 "com/example/sigyn/sigyn/sip/SipScanner" "pos" "I" (.int (0 : Int32))) (S_t1 : Str Z h0.size h0 t1 ([c0, c1, c2] : List Int32)) (g_a1 : n0 ≤ a1) (hSt : St Z zc vfm) (hO : Old Z n0 h0) :
    CN l Z ({ cls := "com/example/sigyn/sigyn/sip/SipScanner", name := "skipSpace", desc := "()I" } : Jvm.MethodName) [(Jvm.Cond.code ({ cls := "com/example/sigyn/sigyn/sip/SipScanner", name := "skipSpace", desc := "()I" } : Jvm.MethodName) prog_48_method_3_code (2 : Nat) (Option.some Jvm.ClassFile.FieldType.int))] ({ frames := 4, cells := 0, slots := 0, locals := 53 } : Room) #[(.ref a1)] h0 (Q_skip3 Z zc vfm a1 t1 c0 c1 c2 h0 n0) := by
  refine CN.of (L0 := #[.val (.ref a1), .unset]) (plainFor_of_name pn_1) (fun m => by first | (simp [entryFrame, mkF, argsToLocals, Value.category]; done) | rfl) ?_
  intro p e s m below meth c s₁ hx hby hml hret hlk hZ hown hnm X0 e0
  have N0 := Fr.nil n0
  have KP0 := Keep.refl h0 [a1]
  have hSt_ := hSt
  obtain ⟨S_cs, n_cs, S_fm, r_fm⟩ := hSt_
  show Go p e below _ (s₁.setTop (mkF m 0 #[.val (.ref a1), .unset] []))
  refine Go.step (fun _ k => XS.aloadN X0.here hx rfl (hb hby d_prog_48_method_3_code_0) rfl rfl k) ?_
  show Go p e below _ (s₁.setTop (mkF m 1 #[.val (.ref a1), .unset] [(.ref a1)]))
  obtain ⟨T_101, X_101, e_101, st_101⟩ := getF X0 hx hZ hown (host := "") (Or.inl (wd_40 hw)) Via.refl e0 F_p (g := (mkF m 1 #[.val (.ref a1), .unset] [(.ref a1)])) rfl rfl (hb hby d_prog_48_method_3_code_1)
  refine Go.step st_101 ?_
  show Go p e below _ (T_101.setTop (mkF m 4 #[.val (.ref a1), .unset] [(.int (0 : Int32))]))
  refine Go.step (fun _ k => XS.istoreN X_101.here hx rfl (hb hby d_prog_48_method_3_code_4) rfl (l' := #[.val (.ref a1), .val (.int (0 : Int32))]) rfl k) ?_
  show Go p e below _ (T_101.setTop (mkF m 5 #[.val (.ref a1), .val (.int (0 : Int32))] []))
  refine Go.step (fun _ k => XS.aloadN X_101.here hx rfl (hb hby d_prog_48_method_3_code_5) rfl rfl k) ?_
  show Go p e below _ (T_101.setTop (mkF m 6 #[.val (.ref a1), .val (.int (0 : Int32))] [(.ref a1)]))
  obtain ⟨T_102, X_102, e_102, st_102⟩ := getF X_101 hx hZ hown (host := "") (Or.inl (wd_40 hw)) Via.refl e_101 F_p (g := (mkF m 6 #[.val (.ref a1), .val (.int (0 : Int32))] [(.ref a1)])) rfl rfl (hb hby d_prog_48_method_3_code_6)
  refine Go.step st_102 ?_
  show Go p e below _ (T_102.setTop (mkF m 9 #[.val (.ref a1), .val (.int (0 : Int32))] [(.int (0 : Int32))]))
  refine Go.step (fun _ k => XS.aloadN X_102.here hx rfl (hb hby d_prog_48_method_3_code_9) rfl rfl k) ?_
  show Go p e below _ (T_102.setTop (mkF m 10 #[.val (.ref a1), .val (.int (0 : Int32))] [(.ref a1), (.int (0 : Int32))]))
  obtain ⟨T_103, X_103, e_103, st_103⟩ := getF X_102 hx hZ hown (host := "") (Or.inl (wd_33 hw)) Via.refl e_102 F_t (g := (mkF m 10 #[.val (.ref a1), .val (.int (0 : Int32))] [(.ref a1), (.int (0 : Int32))])) rfl rfl (hb hby d_prog_48_method_3_code_10)
  refine Go.step st_103 ?_
  show Go p e below _ (T_103.setTop (mkF m 13 #[.val (.ref a1), .val (.int (0 : Int32))] [(.ref t1), (.int (0 : Int32))]))
  have cp104 := S_t1
  obtain ⟨t105, kb105, -, -, Ex105, Fv105, Fc105, Av105, hl105, hn105⟩ := cp104
  obtain ⟨v_106, T_106, L_106, X_106, hQ_106, st_106⟩ := goV X_103 hx hZ (y := ({ cls := "java/lang/String", name := "length", desc := "()I" } : Jvm.MethodName)) (z := ({ cls := "java/lang/String", name := "length", desc := "()I" } : Jvm.MethodName)) (kc := 0) (ks := 0) (QQ := fun v h' L => v = some (.int (3 : Int32)) ∧ L = [] ∧ h' = h0) hown (wd_42 hw) (wd_43 hw) (notFace_of_selects (args := #[]) (mvT hZ (wd_45 hw))) (wd_45 hw) (wd_44 hw) (by decide) (StrChars.Road.lenW (W := 1) hZ (sw_wordsLen hw) (kI := 4) (wd_6 hw) Ex105 Fv105 Fc105 Av105 (StrChars.Road.codOf rfl (fun c hc => (hl105 c hc).2)) (up255 hl105) (S_cs.ext hO.2) n_cs hn105 (by decide) (by decide)) e_103 Ex105 (g := (mkF m 13 #[.val (.ref a1), .val (.int (0 : Int32))] [(.ref t1), (.int (0 : Int32))])) rfl (by rw [hml]; rfl) (argsL := []) (rest := [(.int (0 : Int32))]) rfl (lenOf pd_1 rfl) rfl (by show 2 * 0 + _ ≤ _; exact Nat.le_of_eq rfl) (hb hby d_prog_48_method_3_code_13) (by decide) (by decide)
  obtain ⟨rfl, rfl, e_106⟩ := hQ_106
  have N_106 := Fr.app N0 (Fr.nil n0)
  refine Go.step st_106 ?_
  show Go p e below _ (T_106.setTop (mkF m 16 #[.val (.ref a1), .val (.int (0 : Int32))] [(.int (3 : Int32)), (.int (0 : Int32))]))
  refine Go.step (fun _ k => XS.icmpNo X_106.here hx rfl (hb hby d_prog_48_method_3_code_16) rfl (tlt ((by decide) : (0 : Int32) < (3 : Int32))).2.1 k) ?_
  show Go p e below _ (T_106.setTop (mkF m 19 #[.val (.ref a1), .val (.int (0 : Int32))] []))
  refine Go.step (fun _ k => XS.aloadN X_106.here hx rfl (hb hby d_prog_48_method_3_code_19) rfl rfl k) ?_
  show Go p e below _ (T_106.setTop (mkF m 20 #[.val (.ref a1), .val (.int (0 : Int32))] [(.ref a1)]))
  obtain ⟨T_107, X_107, e_107, st_107⟩ := getF X_106 hx hZ hown (host := "") (Or.inl (wd_33 hw)) Via.refl e_106 F_t (g := (mkF m 20 #[.val (.ref a1), .val (.int (0 : Int32))] [(.ref a1)])) rfl rfl (hb hby d_prog_48_method_3_code_20)
  refine Go.step st_107 ?_
  show Go p e below _ (T_107.setTop (mkF m 23 #[.val (.ref a1), .val (.int (0 : Int32))] [(.ref t1)]))
  refine Go.step (fun _ k => XS.aloadN X_107.here hx rfl (hb hby d_prog_48_method_3_code_23) rfl rfl k) ?_
  show Go p e below _ (T_107.setTop (mkF m 24 #[.val (.ref a1), .val (.int (0 : Int32))] [(.ref a1), (.ref t1)]))
  obtain ⟨T_108, X_108, e_108, st_108⟩ := getF X_107 hx hZ hown (host := "") (Or.inl (wd_40 hw)) Via.refl e_107 F_p (g := (mkF m 24 #[.val (.ref a1), .val (.int (0 : Int32))] [(.ref a1), (.ref t1)])) rfl rfl (hb hby d_prog_48_method_3_code_24)
  refine Go.step st_108 ?_
  show Go p e below _ (T_108.setTop (mkF m 27 #[.val (.ref a1), .val (.int (0 : Int32))] [(.int (0 : Int32)), (.ref t1)]))
  have cp109 := S_t1
  obtain ⟨t110, kb110, -, -, Ex110, Fv110, Fc110, Av110, hl110, hn110⟩ := cp109
  obtain ⟨v_111, T_111, L_111, X_111, hQ_111, st_111⟩ := goV X_108 hx hZ (y := ({ cls := "java/lang/String", name := "charAt", desc := "(I)C" } : Jvm.MethodName)) (z := ({ cls := "java/lang/String", name := "charAt", desc := "(I)C" } : Jvm.MethodName)) (kc := 0) (ks := 0) (QQ := fun v h' L => v = some (.int c0) ∧ L = [] ∧ h' = h0) hown (wd_68 hw) (wd_69 hw) (notFace_of_selects (args := #[]) (mvT hZ (wd_71 hw))) (wd_71 hw) (wd_70 hw) (by decide) (StrChars.Road.chN (W := 0) hZ (sw_wordsChN hw) (kI := 4) (wd_6 hw) (i := 0) (j := (0 : Int32)) Ex110 Fv110 Fc110 Av110 (StrChars.Road.codOf rfl (fun c hc => (hl110 c hc).2)) (up255 hl110) (S_cs.ext hO.2) n_cs (S_fm.ext hO.2) r_fm hn110 (Nat.le_of_ble_eq_true rfl) rfl (by decide) (by decide)) e_108 Ex110 (g := (mkF m 27 #[.val (.ref a1), .val (.int (0 : Int32))] [(.int (0 : Int32)), (.ref t1)])) rfl (by rw [hml]; rfl) (argsL := [(.int (0 : Int32))]) (rest := []) rfl (lenOf pd_2 rfl) rfl (by show 2 * 0 + _ ≤ _; exact Nat.le_of_eq rfl) (hb hby d_prog_48_method_3_code_27) (by decide) (by decide)
  obtain ⟨rfl, rfl, e_111⟩ := hQ_111
  have N_111 := Fr.app N_106 (Fr.nil n0)
  refine Go.step st_111 ?_
  show Go p e below _ (T_111.setTop (mkF m 30 #[.val (.ref a1), .val (.int (0 : Int32))] [(.int c0)]))
  obtain ⟨v_112, T_112, L_112, X_112, hQ_112, st_112⟩ := goS X_111 hx hZ (y := ({ cls := "com/example/sigyn/sigyn/sip/SipScanner", name := "isSpace", desc := "(C)Z" } : Jvm.MethodName)) hown (wd_90 hw) (wd_91 hw) (wd_28 hw) (wd_92 hw) (by decide) (backOf (W := 0) (rm_isSpace l Z a0 hw zc vfm (c0) h0 n0 (Nat.le_trans Z0 KP0.1) hSt hO) hZ (wd_92 hw) (wd_28 hw) (by decide) (by decide)) e_111 (g := (mkF m 30 #[.val (.ref a1), .val (.int (0 : Int32))] [(.int c0)])) rfl (by rw [hml]; rfl) (argsL := [(.int c0)]) (rest := []) rfl (lenOf pd_3 rfl) rfl (by show 2 * 0 + _ ≤ _; exact Nat.le_of_eq rfl) (hb hby d_prog_48_method_3_code_30) (by decide) (by decide)
  obtain ⟨rfl, Nq_112, e_112⟩ := hQ_112
  have N_112 := Fr.app N_111 Nq_112
  refine Go.step st_112 ?_
  show Go p e below _ (T_112.setTop (mkF m 33 #[.val (.ref a1), .val (.int (0 : Int32))] [(.int (if isp c0 then (1 : Int32) else 0))]))
  by_cases y0 : isp c0
  · skip
    refine Go.step (fun _ k => XS.ifNo X_112.here hx rfl (hb hby d_prog_48_method_3_code_33) rfl ((if0 _ _).trans (feq (b01_ne y0)).1) k) ?_
    show Go p e below _ (T_112.setTop (mkF m 36 #[.val (.ref a1), .val (.int (0 : Int32))] []))
    refine Go.step (fun _ k => XS.aloadN X_112.here hx rfl (hb hby d_prog_48_method_3_code_36) rfl rfl k) ?_
    show Go p e below _ (T_112.setTop (mkF m 37 #[.val (.ref a1), .val (.int (0 : Int32))] [(.ref a1)]))
    refine Go.step (fun _ k => XS.dup X_112.here hx rfl (hb hby d_prog_48_method_3_code_37) rfl rfl k) ?_
    show Go p e below _ (T_112.setTop (mkF m 38 #[.val (.ref a1), .val (.int (0 : Int32))] [(.ref a1), (.ref a1)]))
    obtain ⟨T_113, X_113, e_113, st_113⟩ := getF X_112 hx hZ hown (host := "") (Or.inl (wd_40 hw)) Via.refl e_112 F_p (g := (mkF m 38 #[.val (.ref a1), .val (.int (0 : Int32))] [(.ref a1), (.ref a1)])) rfl rfl (hb hby d_prog_48_method_3_code_38)
    refine Go.step st_113 ?_
    show Go p e below _ (T_113.setTop (mkF m 41 #[.val (.ref a1), .val (.int (0 : Int32))] [(.int (0 : Int32)), (.ref a1)]))
    refine Go.step (fun _ k => XS.iconst X_113.here hx rfl (hb hby d_prog_48_method_3_code_41) k) ?_
    show Go p e below _ (T_113.setTop (mkF m 42 #[.val (.ref a1), .val (.int (0 : Int32))] [(.int (1 : Int32)), (.int (0 : Int32)), (.ref a1)]))
    refine Go.step (fun _ k => XS.iadd X_113.here hx rfl (hb hby d_prog_48_method_3_code_42) rfl k) ?_
    show Go p e below _ (T_113.setTop (mkF m 43 #[.val (.ref a1), .val (.int (0 : Int32))] [(.int ((0 : Int32) + (1 : Int32))), (.ref a1)]))
    refine own_top (congrArg Value.int (show ((0 : Int32) + (1 : Int32)) = (1 : Int32) from by decide)) ?_
    show Go p e below _ (T_113.setTop (mkF m 43 #[.val (.ref a1), .val (.int (0 : Int32))] [(.int (1 : Int32)), (.ref a1)]))
    obtain ⟨T_114, h_114, X_114, e_114, W_114, st_114⟩ := putF X_113 hx hZ hown (host := "") (Or.inl (wd_40 hw)) Via.refl e_113 F_p E_a1 (Or.inl (wd_41 hw)) (wd_27 hw) (ty := .int) pf_3 rfl rfl (g := (mkF m 43 #[.val (.ref a1), .val (.int (0 : Int32))] [(.int (1 : Int32)), (.ref a1)])) rfl rfl (hb hby d_prog_48_method_3_code_43)
    refine Go.step st_114 ?_
    have N_114 := Fr.snoc X_114 N_112 g_a1
    have le_114 : h0.size ≤ h_114.size := Nat.le_of_eq W_114.size.symm
    have KP_114 := KP0.wr W_114 (Or.inl (List.mem_of_getElem? (i := 0) rfl))
    have O_114 := hO.wr W_114 g_a1
    have F_114 : Fld Z h_114 a1 "com/example/sigyn/sigyn/sip/SipScanner" "pos" "I" (.int (1 : Int32)) := F_p.same W_114
    show Go p e below _ (T_114.setTop (mkF m 46 #[.val (.ref a1), .val (.int (0 : Int32))] []))
    refine Go.step (fun _ k => XS.goto X_114.here hx rfl (pc0 := 46) (pc' := 5) rfl (hb hby d_prog_48_method_3_code_46) (by decide) (by decide) k) ?_
    show Go p e below _ (T_114.setTop (mkF m 5 #[.val (.ref a1), .val (.int (0 : Int32))] []))
    refine Go.step (fun _ k => XS.aloadN X_114.here hx rfl (hb hby d_prog_48_method_3_code_5) rfl rfl k) ?_
    show Go p e below _ (T_114.setTop (mkF m 6 #[.val (.ref a1), .val (.int (0 : Int32))] [(.ref a1)]))
    obtain ⟨T_115, X_115, e_115, st_115⟩ := getF X_114 hx hZ hown (host := "") (Or.inl (wd_40 hw)) Via.refl e_114 F_114 (g := (mkF m 6 #[.val (.ref a1), .val (.int (0 : Int32))] [(.ref a1)])) rfl rfl (hb hby d_prog_48_method_3_code_6)
    refine Go.step st_115 ?_
    show Go p e below _ (T_115.setTop (mkF m 9 #[.val (.ref a1), .val (.int (0 : Int32))] [(.int (1 : Int32))]))
    refine Go.step (fun _ k => XS.aloadN X_115.here hx rfl (hb hby d_prog_48_method_3_code_9) rfl rfl k) ?_
    show Go p e below _ (T_115.setTop (mkF m 10 #[.val (.ref a1), .val (.int (0 : Int32))] [(.ref a1), (.int (1 : Int32))]))
    have f116 : Fld Z h_114 a1 "com/example/sigyn/sigyn/sip/SipScanner" "text" "Ljava/lang/String;" (.ref t1) := (F_t.other W_114 (Or.inr (sn_3 hw)))
    obtain ⟨T_117, X_117, e_117, st_117⟩ := getF X_115 hx hZ hown (host := "") (Or.inl (wd_33 hw)) Via.refl e_115 f116 (g := (mkF m 10 #[.val (.ref a1), .val (.int (0 : Int32))] [(.ref a1), (.int (1 : Int32))])) rfl rfl (hb hby d_prog_48_method_3_code_10)
    refine Go.step st_117 ?_
    show Go p e below _ (T_117.setTop (mkF m 13 #[.val (.ref a1), .val (.int (0 : Int32))] [(.ref t1), (.int (1 : Int32))]))
    have f118 : Str Z h0.size h_114 t1 ([c0, c1, c2] : List Int32) := (S_t1.wrE W_114 E_a1 (by decide) (wd_27 hw))
    have cp119 := f118
    obtain ⟨t120, kb120, -, -, Ex120, Fv120, Fc120, Av120, hl120, hn120⟩ := cp119
    obtain ⟨v_121, T_121, L_121, X_121, hQ_121, st_121⟩ := goV X_117 hx hZ (y := ({ cls := "java/lang/String", name := "length", desc := "()I" } : Jvm.MethodName)) (z := ({ cls := "java/lang/String", name := "length", desc := "()I" } : Jvm.MethodName)) (kc := 0) (ks := 0) (QQ := fun v h' L => v = some (.int (3 : Int32)) ∧ L = [] ∧ h' = h_114) hown (wd_42 hw) (wd_43 hw) (notFace_of_selects (args := #[]) (mvT hZ (wd_45 hw))) (wd_45 hw) (wd_44 hw) (by decide) (StrChars.Road.lenW (W := 1) hZ (sw_wordsLen hw) (kI := 4) (wd_6 hw) Ex120 Fv120 Fc120 Av120 (StrChars.Road.codOf rfl (fun c hc => (hl120 c hc).2)) (up255 hl120) (S_cs.ext O_114.2) n_cs hn120 (by decide) (by decide)) e_117 Ex120 (g := (mkF m 13 #[.val (.ref a1), .val (.int (0 : Int32))] [(.ref t1), (.int (1 : Int32))])) rfl (by rw [hml]; rfl) (argsL := []) (rest := [(.int (1 : Int32))]) rfl (lenOf pd_1 rfl) rfl (by show 2 * 0 + _ ≤ _; exact Nat.le_of_eq rfl) (hb hby d_prog_48_method_3_code_13) (by decide) (by decide)
    obtain ⟨rfl, rfl, e_121⟩ := hQ_121
    have N_121 := Fr.app N_114 (Fr.nil n0)
    refine Go.step st_121 ?_
    show Go p e below _ (T_121.setTop (mkF m 16 #[.val (.ref a1), .val (.int (0 : Int32))] [(.int (3 : Int32)), (.int (1 : Int32))]))
    refine Go.step (fun _ k => XS.icmpNo X_121.here hx rfl (hb hby d_prog_48_method_3_code_16) rfl (tlt ((by decide) : (1 : Int32) < (3 : Int32))).2.1 k) ?_
    show Go p e below _ (T_121.setTop (mkF m 19 #[.val (.ref a1), .val (.int (0 : Int32))] []))
    refine Go.step (fun _ k => XS.aloadN X_121.here hx rfl (hb hby d_prog_48_method_3_code_19) rfl rfl k) ?_
    show Go p e below _ (T_121.setTop (mkF m 20 #[.val (.ref a1), .val (.int (0 : Int32))] [(.ref a1)]))
    obtain ⟨T_122, X_122, e_122, st_122⟩ := getF X_121 hx hZ hown (host := "") (Or.inl (wd_33 hw)) Via.refl e_121 f116 (g := (mkF m 20 #[.val (.ref a1), .val (.int (0 : Int32))] [(.ref a1)])) rfl rfl (hb hby d_prog_48_method_3_code_20)
    refine Go.step st_122 ?_
    show Go p e below _ (T_122.setTop (mkF m 23 #[.val (.ref a1), .val (.int (0 : Int32))] [(.ref t1)]))
    refine Go.step (fun _ k => XS.aloadN X_122.here hx rfl (hb hby d_prog_48_method_3_code_23) rfl rfl k) ?_
    show Go p e below _ (T_122.setTop (mkF m 24 #[.val (.ref a1), .val (.int (0 : Int32))] [(.ref a1), (.ref t1)]))
    obtain ⟨T_123, X_123, e_123, st_123⟩ := getF X_122 hx hZ hown (host := "") (Or.inl (wd_40 hw)) Via.refl e_122 F_114 (g := (mkF m 24 #[.val (.ref a1), .val (.int (0 : Int32))] [(.ref a1), (.ref t1)])) rfl rfl (hb hby d_prog_48_method_3_code_24)
    refine Go.step st_123 ?_
    show Go p e below _ (T_123.setTop (mkF m 27 #[.val (.ref a1), .val (.int (0 : Int32))] [(.int (1 : Int32)), (.ref t1)]))
    have cp124 := f118
    obtain ⟨t125, kb125, -, -, Ex125, Fv125, Fc125, Av125, hl125, hn125⟩ := cp124
    obtain ⟨v_126, T_126, L_126, X_126, hQ_126, st_126⟩ := goV X_123 hx hZ (y := ({ cls := "java/lang/String", name := "charAt", desc := "(I)C" } : Jvm.MethodName)) (z := ({ cls := "java/lang/String", name := "charAt", desc := "(I)C" } : Jvm.MethodName)) (kc := 0) (ks := 0) (QQ := fun v h' L => v = some (.int c1) ∧ L = [] ∧ h' = h_114) hown (wd_68 hw) (wd_69 hw) (notFace_of_selects (args := #[]) (mvT hZ (wd_71 hw))) (wd_71 hw) (wd_70 hw) (by decide) (StrChars.Road.chN (W := 0) hZ (sw_wordsChN hw) (kI := 4) (wd_6 hw) (i := 1) (j := (1 : Int32)) Ex125 Fv125 Fc125 Av125 (StrChars.Road.codOf rfl (fun c hc => (hl125 c hc).2)) (up255 hl125) (S_cs.ext O_114.2) n_cs (S_fm.ext O_114.2) r_fm hn125 (Nat.le_of_ble_eq_true rfl) rfl (by decide) (by decide)) e_123 Ex125 (g := (mkF m 27 #[.val (.ref a1), .val (.int (0 : Int32))] [(.int (1 : Int32)), (.ref t1)])) rfl (by rw [hml]; rfl) (argsL := [(.int (1 : Int32))]) (rest := []) rfl (lenOf pd_2 rfl) rfl (by show 2 * 0 + _ ≤ _; exact Nat.le_of_eq rfl) (hb hby d_prog_48_method_3_code_27) (by decide) (by decide)
    obtain ⟨rfl, rfl, e_126⟩ := hQ_126
    have N_126 := Fr.app N_121 (Fr.nil n0)
    refine Go.step st_126 ?_
    show Go p e below _ (T_126.setTop (mkF m 30 #[.val (.ref a1), .val (.int (0 : Int32))] [(.int c1)]))
    obtain ⟨v_127, T_127, L_127, X_127, hQ_127, st_127⟩ := goS X_126 hx hZ (y := ({ cls := "com/example/sigyn/sigyn/sip/SipScanner", name := "isSpace", desc := "(C)Z" } : Jvm.MethodName)) hown (wd_90 hw) (wd_91 hw) (wd_28 hw) (wd_92 hw) (by decide) (backOf (W := 0) (rm_isSpace l Z a0 hw zc vfm (c1) h_114 n0 (Nat.le_trans Z0 KP_114.1) hSt O_114) hZ (wd_92 hw) (wd_28 hw) (by decide) (by decide)) e_126 (g := (mkF m 30 #[.val (.ref a1), .val (.int (0 : Int32))] [(.int c1)])) rfl (by rw [hml]; rfl) (argsL := [(.int c1)]) (rest := []) rfl (lenOf pd_3 rfl) rfl (by show 2 * 0 + _ ≤ _; exact Nat.le_of_eq rfl) (hb hby d_prog_48_method_3_code_30) (by decide) (by decide)
    obtain ⟨rfl, Nq_127, e_127⟩ := hQ_127
    have N_127 := Fr.app N_126 Nq_127
    refine Go.step st_127 ?_
    show Go p e below _ (T_127.setTop (mkF m 33 #[.val (.ref a1), .val (.int (0 : Int32))] [(.int (if isp c1 then (1 : Int32) else 0))]))
    by_cases y1 : isp c1
    · skip
      refine Go.step (fun _ k => XS.ifNo X_127.here hx rfl (hb hby d_prog_48_method_3_code_33) rfl ((if0 _ _).trans (feq (b01_ne y1)).1) k) ?_
      show Go p e below _ (T_127.setTop (mkF m 36 #[.val (.ref a1), .val (.int (0 : Int32))] []))
      refine Go.step (fun _ k => XS.aloadN X_127.here hx rfl (hb hby d_prog_48_method_3_code_36) rfl rfl k) ?_
      show Go p e below _ (T_127.setTop (mkF m 37 #[.val (.ref a1), .val (.int (0 : Int32))] [(.ref a1)]))
      refine Go.step (fun _ k => XS.dup X_127.here hx rfl (hb hby d_prog_48_method_3_code_37) rfl rfl k) ?_
      show Go p e below _ (T_127.setTop (mkF m 38 #[.val (.ref a1), .val (.int (0 : Int32))] [(.ref a1), (.ref a1)]))
      obtain ⟨T_128, X_128, e_128, st_128⟩ := getF X_127 hx hZ hown (host := "") (Or.inl (wd_40 hw)) Via.refl e_127 F_114 (g := (mkF m 38 #[.val (.ref a1), .val (.int (0 : Int32))] [(.ref a1), (.ref a1)])) rfl rfl (hb hby d_prog_48_method_3_code_38)
      refine Go.step st_128 ?_
      show Go p e below _ (T_128.setTop (mkF m 41 #[.val (.ref a1), .val (.int (0 : Int32))] [(.int (1 : Int32)), (.ref a1)]))
      refine Go.step (fun _ k => XS.iconst X_128.here hx rfl (hb hby d_prog_48_method_3_code_41) k) ?_
      show Go p e below _ (T_128.setTop (mkF m 42 #[.val (.ref a1), .val (.int (0 : Int32))] [(.int (1 : Int32)), (.int (1 : Int32)), (.ref a1)]))
      refine Go.step (fun _ k => XS.iadd X_128.here hx rfl (hb hby d_prog_48_method_3_code_42) rfl k) ?_
      show Go p e below _ (T_128.setTop (mkF m 43 #[.val (.ref a1), .val (.int (0 : Int32))] [(.int ((1 : Int32) + (1 : Int32))), (.ref a1)]))
      refine own_top (congrArg Value.int (show ((1 : Int32) + (1 : Int32)) = (2 : Int32) from by decide)) ?_
      show Go p e below _ (T_128.setTop (mkF m 43 #[.val (.ref a1), .val (.int (0 : Int32))] [(.int (2 : Int32)), (.ref a1)]))
      have f129 : Exa Z h_114 a1 "com/example/sigyn/sigyn/sip/SipScanner" := (E_a1.wr W_114)
      obtain ⟨T_130, h_130, X_130, e_130, W_130, st_130⟩ := putF X_128 hx hZ hown (host := "") (Or.inl (wd_40 hw)) Via.refl e_128 F_114 f129 (Or.inl (wd_41 hw)) (wd_27 hw) (ty := .int) pf_3 rfl rfl (g := (mkF m 43 #[.val (.ref a1), .val (.int (0 : Int32))] [(.int (2 : Int32)), (.ref a1)])) rfl rfl (hb hby d_prog_48_method_3_code_43)
      refine Go.step st_130 ?_
      have N_130 := Fr.snoc X_130 N_127 g_a1
      have le_130 : h_114.size ≤ h_130.size := Nat.le_of_eq W_130.size.symm
      have KP_130 := KP_114.wr W_130 (Or.inl (List.mem_of_getElem? (i := 0) rfl))
      have O_130 := O_114.wr W_130 g_a1
      have F_130 : Fld Z h_130 a1 "com/example/sigyn/sigyn/sip/SipScanner" "pos" "I" (.int (2 : Int32)) := F_114.same W_130
      show Go p e below _ (T_130.setTop (mkF m 46 #[.val (.ref a1), .val (.int (0 : Int32))] []))
      refine Go.step (fun _ k => XS.goto X_130.here hx rfl (pc0 := 46) (pc' := 5) rfl (hb hby d_prog_48_method_3_code_46) (by decide) (by decide) k) ?_
      show Go p e below _ (T_130.setTop (mkF m 5 #[.val (.ref a1), .val (.int (0 : Int32))] []))
      refine Go.step (fun _ k => XS.aloadN X_130.here hx rfl (hb hby d_prog_48_method_3_code_5) rfl rfl k) ?_
      show Go p e below _ (T_130.setTop (mkF m 6 #[.val (.ref a1), .val (.int (0 : Int32))] [(.ref a1)]))
      obtain ⟨T_131, X_131, e_131, st_131⟩ := getF X_130 hx hZ hown (host := "") (Or.inl (wd_40 hw)) Via.refl e_130 F_130 (g := (mkF m 6 #[.val (.ref a1), .val (.int (0 : Int32))] [(.ref a1)])) rfl rfl (hb hby d_prog_48_method_3_code_6)
      refine Go.step st_131 ?_
      show Go p e below _ (T_131.setTop (mkF m 9 #[.val (.ref a1), .val (.int (0 : Int32))] [(.int (2 : Int32))]))
      refine Go.step (fun _ k => XS.aloadN X_131.here hx rfl (hb hby d_prog_48_method_3_code_9) rfl rfl k) ?_
      show Go p e below _ (T_131.setTop (mkF m 10 #[.val (.ref a1), .val (.int (0 : Int32))] [(.ref a1), (.int (2 : Int32))]))
      have f132 : Fld Z h_130 a1 "com/example/sigyn/sigyn/sip/SipScanner" "text" "Ljava/lang/String;" (.ref t1) := (f116.other W_130 (Or.inr (sn_3 hw)))
      obtain ⟨T_133, X_133, e_133, st_133⟩ := getF X_131 hx hZ hown (host := "") (Or.inl (wd_33 hw)) Via.refl e_131 f132 (g := (mkF m 10 #[.val (.ref a1), .val (.int (0 : Int32))] [(.ref a1), (.int (2 : Int32))])) rfl rfl (hb hby d_prog_48_method_3_code_10)
      refine Go.step st_133 ?_
      show Go p e below _ (T_133.setTop (mkF m 13 #[.val (.ref a1), .val (.int (0 : Int32))] [(.ref t1), (.int (2 : Int32))]))
      have f134 : Str Z h0.size h_130 t1 ([c0, c1, c2] : List Int32) := (f118.wrE W_130 (E_a1.wr W_114) (by decide) (wd_27 hw))
      have cp135 := f134
      obtain ⟨t136, kb136, -, -, Ex136, Fv136, Fc136, Av136, hl136, hn136⟩ := cp135
      obtain ⟨v_137, T_137, L_137, X_137, hQ_137, st_137⟩ := goV X_133 hx hZ (y := ({ cls := "java/lang/String", name := "length", desc := "()I" } : Jvm.MethodName)) (z := ({ cls := "java/lang/String", name := "length", desc := "()I" } : Jvm.MethodName)) (kc := 0) (ks := 0) (QQ := fun v h' L => v = some (.int (3 : Int32)) ∧ L = [] ∧ h' = h_130) hown (wd_42 hw) (wd_43 hw) (notFace_of_selects (args := #[]) (mvT hZ (wd_45 hw))) (wd_45 hw) (wd_44 hw) (by decide) (StrChars.Road.lenW (W := 1) hZ (sw_wordsLen hw) (kI := 4) (wd_6 hw) Ex136 Fv136 Fc136 Av136 (StrChars.Road.codOf rfl (fun c hc => (hl136 c hc).2)) (up255 hl136) (S_cs.ext O_130.2) n_cs hn136 (by decide) (by decide)) e_133 Ex136 (g := (mkF m 13 #[.val (.ref a1), .val (.int (0 : Int32))] [(.ref t1), (.int (2 : Int32))])) rfl (by rw [hml]; rfl) (argsL := []) (rest := [(.int (2 : Int32))]) rfl (lenOf pd_1 rfl) rfl (by show 2 * 0 + _ ≤ _; exact Nat.le_of_eq rfl) (hb hby d_prog_48_method_3_code_13) (by decide) (by decide)
      obtain ⟨rfl, rfl, e_137⟩ := hQ_137
      have N_137 := Fr.app N_130 (Fr.nil n0)
      refine Go.step st_137 ?_
      show Go p e below _ (T_137.setTop (mkF m 16 #[.val (.ref a1), .val (.int (0 : Int32))] [(.int (3 : Int32)), (.int (2 : Int32))]))
      refine Go.step (fun _ k => XS.icmpNo X_137.here hx rfl (hb hby d_prog_48_method_3_code_16) rfl (tlt ((by decide) : (2 : Int32) < (3 : Int32))).2.1 k) ?_
      show Go p e below _ (T_137.setTop (mkF m 19 #[.val (.ref a1), .val (.int (0 : Int32))] []))
      refine Go.step (fun _ k => XS.aloadN X_137.here hx rfl (hb hby d_prog_48_method_3_code_19) rfl rfl k) ?_
      show Go p e below _ (T_137.setTop (mkF m 20 #[.val (.ref a1), .val (.int (0 : Int32))] [(.ref a1)]))
      obtain ⟨T_138, X_138, e_138, st_138⟩ := getF X_137 hx hZ hown (host := "") (Or.inl (wd_33 hw)) Via.refl e_137 f132 (g := (mkF m 20 #[.val (.ref a1), .val (.int (0 : Int32))] [(.ref a1)])) rfl rfl (hb hby d_prog_48_method_3_code_20)
      refine Go.step st_138 ?_
      show Go p e below _ (T_138.setTop (mkF m 23 #[.val (.ref a1), .val (.int (0 : Int32))] [(.ref t1)]))
      refine Go.step (fun _ k => XS.aloadN X_138.here hx rfl (hb hby d_prog_48_method_3_code_23) rfl rfl k) ?_
      show Go p e below _ (T_138.setTop (mkF m 24 #[.val (.ref a1), .val (.int (0 : Int32))] [(.ref a1), (.ref t1)]))
      obtain ⟨T_139, X_139, e_139, st_139⟩ := getF X_138 hx hZ hown (host := "") (Or.inl (wd_40 hw)) Via.refl e_138 F_130 (g := (mkF m 24 #[.val (.ref a1), .val (.int (0 : Int32))] [(.ref a1), (.ref t1)])) rfl rfl (hb hby d_prog_48_method_3_code_24)
      refine Go.step st_139 ?_
      show Go p e below _ (T_139.setTop (mkF m 27 #[.val (.ref a1), .val (.int (0 : Int32))] [(.int (2 : Int32)), (.ref t1)]))
      have cp140 := f134
      obtain ⟨t141, kb141, -, -, Ex141, Fv141, Fc141, Av141, hl141, hn141⟩ := cp140
      obtain ⟨v_142, T_142, L_142, X_142, hQ_142, st_142⟩ := goV X_139 hx hZ (y := ({ cls := "java/lang/String", name := "charAt", desc := "(I)C" } : Jvm.MethodName)) (z := ({ cls := "java/lang/String", name := "charAt", desc := "(I)C" } : Jvm.MethodName)) (kc := 0) (ks := 0) (QQ := fun v h' L => v = some (.int c2) ∧ L = [] ∧ h' = h_130) hown (wd_68 hw) (wd_69 hw) (notFace_of_selects (args := #[]) (mvT hZ (wd_71 hw))) (wd_71 hw) (wd_70 hw) (by decide) (StrChars.Road.chN (W := 0) hZ (sw_wordsChN hw) (kI := 4) (wd_6 hw) (i := 2) (j := (2 : Int32)) Ex141 Fv141 Fc141 Av141 (StrChars.Road.codOf rfl (fun c hc => (hl141 c hc).2)) (up255 hl141) (S_cs.ext O_130.2) n_cs (S_fm.ext O_130.2) r_fm hn141 (Nat.le_of_ble_eq_true rfl) rfl (by decide) (by decide)) e_139 Ex141 (g := (mkF m 27 #[.val (.ref a1), .val (.int (0 : Int32))] [(.int (2 : Int32)), (.ref t1)])) rfl (by rw [hml]; rfl) (argsL := [(.int (2 : Int32))]) (rest := []) rfl (lenOf pd_2 rfl) rfl (by show 2 * 0 + _ ≤ _; exact Nat.le_of_eq rfl) (hb hby d_prog_48_method_3_code_27) (by decide) (by decide)
      obtain ⟨rfl, rfl, e_142⟩ := hQ_142
      have N_142 := Fr.app N_137 (Fr.nil n0)
      refine Go.step st_142 ?_
      show Go p e below _ (T_142.setTop (mkF m 30 #[.val (.ref a1), .val (.int (0 : Int32))] [(.int c2)]))
      obtain ⟨v_143, T_143, L_143, X_143, hQ_143, st_143⟩ := goS X_142 hx hZ (y := ({ cls := "com/example/sigyn/sigyn/sip/SipScanner", name := "isSpace", desc := "(C)Z" } : Jvm.MethodName)) hown (wd_90 hw) (wd_91 hw) (wd_28 hw) (wd_92 hw) (by decide) (backOf (W := 0) (rm_isSpace l Z a0 hw zc vfm (c2) h_130 n0 (Nat.le_trans Z0 KP_130.1) hSt O_130) hZ (wd_92 hw) (wd_28 hw) (by decide) (by decide)) e_142 (g := (mkF m 30 #[.val (.ref a1), .val (.int (0 : Int32))] [(.int c2)])) rfl (by rw [hml]; rfl) (argsL := [(.int c2)]) (rest := []) rfl (lenOf pd_3 rfl) rfl (by show 2 * 0 + _ ≤ _; exact Nat.le_of_eq rfl) (hb hby d_prog_48_method_3_code_30) (by decide) (by decide)
      obtain ⟨rfl, Nq_143, e_143⟩ := hQ_143
      have N_143 := Fr.app N_142 Nq_143
      refine Go.step st_143 ?_
      show Go p e below _ (T_143.setTop (mkF m 33 #[.val (.ref a1), .val (.int (0 : Int32))] [(.int (if isp c2 then (1 : Int32) else 0))]))
      by_cases y2 : isp c2
      · skip
        refine Go.step (fun _ k => XS.ifNo X_143.here hx rfl (hb hby d_prog_48_method_3_code_33) rfl ((if0 _ _).trans (feq (b01_ne y2)).1) k) ?_
        show Go p e below _ (T_143.setTop (mkF m 36 #[.val (.ref a1), .val (.int (0 : Int32))] []))
        refine Go.step (fun _ k => XS.aloadN X_143.here hx rfl (hb hby d_prog_48_method_3_code_36) rfl rfl k) ?_
        show Go p e below _ (T_143.setTop (mkF m 37 #[.val (.ref a1), .val (.int (0 : Int32))] [(.ref a1)]))
        refine Go.step (fun _ k => XS.dup X_143.here hx rfl (hb hby d_prog_48_method_3_code_37) rfl rfl k) ?_
        show Go p e below _ (T_143.setTop (mkF m 38 #[.val (.ref a1), .val (.int (0 : Int32))] [(.ref a1), (.ref a1)]))
        obtain ⟨T_144, X_144, e_144, st_144⟩ := getF X_143 hx hZ hown (host := "") (Or.inl (wd_40 hw)) Via.refl e_143 F_130 (g := (mkF m 38 #[.val (.ref a1), .val (.int (0 : Int32))] [(.ref a1), (.ref a1)])) rfl rfl (hb hby d_prog_48_method_3_code_38)
        refine Go.step st_144 ?_
        show Go p e below _ (T_144.setTop (mkF m 41 #[.val (.ref a1), .val (.int (0 : Int32))] [(.int (2 : Int32)), (.ref a1)]))
        refine Go.step (fun _ k => XS.iconst X_144.here hx rfl (hb hby d_prog_48_method_3_code_41) k) ?_
        show Go p e below _ (T_144.setTop (mkF m 42 #[.val (.ref a1), .val (.int (0 : Int32))] [(.int (1 : Int32)), (.int (2 : Int32)), (.ref a1)]))
        refine Go.step (fun _ k => XS.iadd X_144.here hx rfl (hb hby d_prog_48_method_3_code_42) rfl k) ?_
        show Go p e below _ (T_144.setTop (mkF m 43 #[.val (.ref a1), .val (.int (0 : Int32))] [(.int ((2 : Int32) + (1 : Int32))), (.ref a1)]))
        refine own_top (congrArg Value.int (show ((2 : Int32) + (1 : Int32)) = (3 : Int32) from by decide)) ?_
        show Go p e below _ (T_144.setTop (mkF m 43 #[.val (.ref a1), .val (.int (0 : Int32))] [(.int (3 : Int32)), (.ref a1)]))
        have f145 : Exa Z h_130 a1 "com/example/sigyn/sigyn/sip/SipScanner" := (f129.wr W_130)
        obtain ⟨T_146, h_146, X_146, e_146, W_146, st_146⟩ := putF X_144 hx hZ hown (host := "") (Or.inl (wd_40 hw)) Via.refl e_144 F_130 f145 (Or.inl (wd_41 hw)) (wd_27 hw) (ty := .int) pf_3 rfl rfl (g := (mkF m 43 #[.val (.ref a1), .val (.int (0 : Int32))] [(.int (3 : Int32)), (.ref a1)])) rfl rfl (hb hby d_prog_48_method_3_code_43)
        refine Go.step st_146 ?_
        have N_146 := Fr.snoc X_146 N_143 g_a1
        have le_146 : h_130.size ≤ h_146.size := Nat.le_of_eq W_146.size.symm
        have KP_146 := KP_130.wr W_146 (Or.inl (List.mem_of_getElem? (i := 0) rfl))
        have O_146 := O_130.wr W_146 g_a1
        have F_146 : Fld Z h_146 a1 "com/example/sigyn/sigyn/sip/SipScanner" "pos" "I" (.int (3 : Int32)) := F_130.same W_146
        show Go p e below _ (T_146.setTop (mkF m 46 #[.val (.ref a1), .val (.int (0 : Int32))] []))
        refine Go.step (fun _ k => XS.goto X_146.here hx rfl (pc0 := 46) (pc' := 5) rfl (hb hby d_prog_48_method_3_code_46) (by decide) (by decide) k) ?_
        show Go p e below _ (T_146.setTop (mkF m 5 #[.val (.ref a1), .val (.int (0 : Int32))] []))
        refine Go.step (fun _ k => XS.aloadN X_146.here hx rfl (hb hby d_prog_48_method_3_code_5) rfl rfl k) ?_
        show Go p e below _ (T_146.setTop (mkF m 6 #[.val (.ref a1), .val (.int (0 : Int32))] [(.ref a1)]))
        obtain ⟨T_147, X_147, e_147, st_147⟩ := getF X_146 hx hZ hown (host := "") (Or.inl (wd_40 hw)) Via.refl e_146 F_146 (g := (mkF m 6 #[.val (.ref a1), .val (.int (0 : Int32))] [(.ref a1)])) rfl rfl (hb hby d_prog_48_method_3_code_6)
        refine Go.step st_147 ?_
        show Go p e below _ (T_147.setTop (mkF m 9 #[.val (.ref a1), .val (.int (0 : Int32))] [(.int (3 : Int32))]))
        refine Go.step (fun _ k => XS.aloadN X_147.here hx rfl (hb hby d_prog_48_method_3_code_9) rfl rfl k) ?_
        show Go p e below _ (T_147.setTop (mkF m 10 #[.val (.ref a1), .val (.int (0 : Int32))] [(.ref a1), (.int (3 : Int32))]))
        have f148 : Fld Z h_146 a1 "com/example/sigyn/sigyn/sip/SipScanner" "text" "Ljava/lang/String;" (.ref t1) := (f132.other W_146 (Or.inr (sn_3 hw)))
        obtain ⟨T_149, X_149, e_149, st_149⟩ := getF X_147 hx hZ hown (host := "") (Or.inl (wd_33 hw)) Via.refl e_147 f148 (g := (mkF m 10 #[.val (.ref a1), .val (.int (0 : Int32))] [(.ref a1), (.int (3 : Int32))])) rfl rfl (hb hby d_prog_48_method_3_code_10)
        refine Go.step st_149 ?_
        show Go p e below _ (T_149.setTop (mkF m 13 #[.val (.ref a1), .val (.int (0 : Int32))] [(.ref t1), (.int (3 : Int32))]))
        have f150 : Str Z h0.size h_146 t1 ([c0, c1, c2] : List Int32) := (f134.wrE W_146 ((E_a1.wr W_114).wr W_130) (by decide) (wd_27 hw))
        have cp151 := f150
        obtain ⟨t152, kb152, -, -, Ex152, Fv152, Fc152, Av152, hl152, hn152⟩ := cp151
        obtain ⟨v_153, T_153, L_153, X_153, hQ_153, st_153⟩ := goV X_149 hx hZ (y := ({ cls := "java/lang/String", name := "length", desc := "()I" } : Jvm.MethodName)) (z := ({ cls := "java/lang/String", name := "length", desc := "()I" } : Jvm.MethodName)) (kc := 0) (ks := 0) (QQ := fun v h' L => v = some (.int (3 : Int32)) ∧ L = [] ∧ h' = h_146) hown (wd_42 hw) (wd_43 hw) (notFace_of_selects (args := #[]) (mvT hZ (wd_45 hw))) (wd_45 hw) (wd_44 hw) (by decide) (StrChars.Road.lenW (W := 1) hZ (sw_wordsLen hw) (kI := 4) (wd_6 hw) Ex152 Fv152 Fc152 Av152 (StrChars.Road.codOf rfl (fun c hc => (hl152 c hc).2)) (up255 hl152) (S_cs.ext O_146.2) n_cs hn152 (by decide) (by decide)) e_149 Ex152 (g := (mkF m 13 #[.val (.ref a1), .val (.int (0 : Int32))] [(.ref t1), (.int (3 : Int32))])) rfl (by rw [hml]; rfl) (argsL := []) (rest := [(.int (3 : Int32))]) rfl (lenOf pd_1 rfl) rfl (by show 2 * 0 + _ ≤ _; exact Nat.le_of_eq rfl) (hb hby d_prog_48_method_3_code_13) (by decide) (by decide)
        obtain ⟨rfl, rfl, e_153⟩ := hQ_153
        have N_153 := Fr.app N_146 (Fr.nil n0)
        refine Go.step st_153 ?_
        show Go p e below _ (T_153.setTop (mkF m 16 #[.val (.ref a1), .val (.int (0 : Int32))] [(.int (3 : Int32)), (.int (3 : Int32))]))
        refine Go.step (fun _ k => XS.icmpYes X_153.here hx rfl (pc0 := 16) (pc' := 49) rfl (hb hby d_prog_48_method_3_code_16) rfl (flt ((by decide) : ¬ ((3 : Int32) < (3 : Int32)))).2.1 (by decide) (by decide) k) ?_
        show Go p e below _ (T_153.setTop (mkF m 49 #[.val (.ref a1), .val (.int (0 : Int32))] []))
        refine Go.step (fun _ k => XS.aloadN X_153.here hx rfl (hb hby d_prog_48_method_3_code_49) rfl rfl k) ?_
        show Go p e below _ (T_153.setTop (mkF m 50 #[.val (.ref a1), .val (.int (0 : Int32))] [(.ref a1)]))
        obtain ⟨T_154, X_154, e_154, st_154⟩ := getF X_153 hx hZ hown (host := "") (Or.inl (wd_40 hw)) Via.refl e_153 F_146 (g := (mkF m 50 #[.val (.ref a1), .val (.int (0 : Int32))] [(.ref a1)])) rfl rfl (hb hby d_prog_48_method_3_code_50)
        refine Go.step st_154 ?_
        show Go p e below _ (T_154.setTop (mkF m 53 #[.val (.ref a1), .val (.int (0 : Int32))] [(.int (3 : Int32))]))
        refine Go.step (fun _ k => XS.iloadN X_154.here hx rfl (hb hby d_prog_48_method_3_code_53) rfl  k) ?_
        show Go p e below _ (T_154.setTop (mkF m 54 #[.val (.ref a1), .val (.int (0 : Int32))] [(.int (0 : Int32)), (.int (3 : Int32))]))
        refine Go.step (fun _ k => XS.isub X_154.here hx rfl (hb hby d_prog_48_method_3_code_54) rfl k) ?_
        show Go p e below _ (T_154.setTop (mkF m 55 #[.val (.ref a1), .val (.int (0 : Int32))] [(.int ((3 : Int32) - (0 : Int32)))]))
        refine own_top (congrArg Value.int (show ((3 : Int32) - (0 : Int32)) = (3 : Int32) from by decide)) ?_
        show Go p e below _ (T_154.setTop (mkF m 55 #[.val (.ref a1), .val (.int (0 : Int32))] [(.int (3 : Int32))]))
        exact Go.retV X_154 hx hlk hret rfl (Or.inl ⟨rfl, Or.inl rfl, _, rfl⟩) (hb hby d_prog_48_method_3_code_55) (by decide) (by decide) (by rw [e_154]; exact ⟨(3 : Int32), (3 : Int32), rfl, N_153, KP_146, f148, F_146, ⟨fun _ => ⟨y0, y1, y2⟩, fun _ => rfl⟩⟩)
      · skip
        refine Go.step (fun _ k => XS.ifYes X_143.here hx rfl (pc0 := 33) (pc' := 49) rfl (hb hby d_prog_48_method_3_code_33) rfl ((if0 _ _).trans (teq (b01_eq y2)).1) (by decide) (by decide) k) ?_
        show Go p e below _ (T_143.setTop (mkF m 49 #[.val (.ref a1), .val (.int (0 : Int32))] []))
        refine Go.step (fun _ k => XS.aloadN X_143.here hx rfl (hb hby d_prog_48_method_3_code_49) rfl rfl k) ?_
        show Go p e below _ (T_143.setTop (mkF m 50 #[.val (.ref a1), .val (.int (0 : Int32))] [(.ref a1)]))
        obtain ⟨T_155, X_155, e_155, st_155⟩ := getF X_143 hx hZ hown (host := "") (Or.inl (wd_40 hw)) Via.refl e_143 F_130 (g := (mkF m 50 #[.val (.ref a1), .val (.int (0 : Int32))] [(.ref a1)])) rfl rfl (hb hby d_prog_48_method_3_code_50)
        refine Go.step st_155 ?_
        show Go p e below _ (T_155.setTop (mkF m 53 #[.val (.ref a1), .val (.int (0 : Int32))] [(.int (2 : Int32))]))
        refine Go.step (fun _ k => XS.iloadN X_155.here hx rfl (hb hby d_prog_48_method_3_code_53) rfl  k) ?_
        show Go p e below _ (T_155.setTop (mkF m 54 #[.val (.ref a1), .val (.int (0 : Int32))] [(.int (0 : Int32)), (.int (2 : Int32))]))
        refine Go.step (fun _ k => XS.isub X_155.here hx rfl (hb hby d_prog_48_method_3_code_54) rfl k) ?_
        show Go p e below _ (T_155.setTop (mkF m 55 #[.val (.ref a1), .val (.int (0 : Int32))] [(.int ((2 : Int32) - (0 : Int32)))]))
        refine own_top (congrArg Value.int (show ((2 : Int32) - (0 : Int32)) = (2 : Int32) from by decide)) ?_
        show Go p e below _ (T_155.setTop (mkF m 55 #[.val (.ref a1), .val (.int (0 : Int32))] [(.int (2 : Int32))]))
        exact Go.retV X_155 hx hlk hret rfl (Or.inl ⟨rfl, Or.inl rfl, _, rfl⟩) (hb hby d_prog_48_method_3_code_55) (by decide) (by decide) (by rw [e_155]; exact ⟨(2 : Int32), (2 : Int32), rfl, N_143, KP_130, f132, F_130, ⟨fun q => absurd q (by decide), fun q => absurd q.2.2 y2⟩⟩)
    · skip
      refine Go.step (fun _ k => XS.ifYes X_127.here hx rfl (pc0 := 33) (pc' := 49) rfl (hb hby d_prog_48_method_3_code_33) rfl ((if0 _ _).trans (teq (b01_eq y1)).1) (by decide) (by decide) k) ?_
      show Go p e below _ (T_127.setTop (mkF m 49 #[.val (.ref a1), .val (.int (0 : Int32))] []))
      refine Go.step (fun _ k => XS.aloadN X_127.here hx rfl (hb hby d_prog_48_method_3_code_49) rfl rfl k) ?_
      show Go p e below _ (T_127.setTop (mkF m 50 #[.val (.ref a1), .val (.int (0 : Int32))] [(.ref a1)]))
      obtain ⟨T_156, X_156, e_156, st_156⟩ := getF X_127 hx hZ hown (host := "") (Or.inl (wd_40 hw)) Via.refl e_127 F_114 (g := (mkF m 50 #[.val (.ref a1), .val (.int (0 : Int32))] [(.ref a1)])) rfl rfl (hb hby d_prog_48_method_3_code_50)
      refine Go.step st_156 ?_
      show Go p e below _ (T_156.setTop (mkF m 53 #[.val (.ref a1), .val (.int (0 : Int32))] [(.int (1 : Int32))]))
      refine Go.step (fun _ k => XS.iloadN X_156.here hx rfl (hb hby d_prog_48_method_3_code_53) rfl  k) ?_
      show Go p e below _ (T_156.setTop (mkF m 54 #[.val (.ref a1), .val (.int (0 : Int32))] [(.int (0 : Int32)), (.int (1 : Int32))]))
      refine Go.step (fun _ k => XS.isub X_156.here hx rfl (hb hby d_prog_48_method_3_code_54) rfl k) ?_
      show Go p e below _ (T_156.setTop (mkF m 55 #[.val (.ref a1), .val (.int (0 : Int32))] [(.int ((1 : Int32) - (0 : Int32)))]))
      refine own_top (congrArg Value.int (show ((1 : Int32) - (0 : Int32)) = (1 : Int32) from by decide)) ?_
      show Go p e below _ (T_156.setTop (mkF m 55 #[.val (.ref a1), .val (.int (0 : Int32))] [(.int (1 : Int32))]))
      exact Go.retV X_156 hx hlk hret rfl (Or.inl ⟨rfl, Or.inl rfl, _, rfl⟩) (hb hby d_prog_48_method_3_code_55) (by decide) (by decide) (by rw [e_156]; exact ⟨(1 : Int32), (1 : Int32), rfl, N_127, KP_114, f116, F_114, ⟨fun q => absurd q (by decide), fun q => absurd q.2.1 y1⟩⟩)
  · skip
    refine Go.step (fun _ k => XS.ifYes X_112.here hx rfl (pc0 := 33) (pc' := 49) rfl (hb hby d_prog_48_method_3_code_33) rfl ((if0 _ _).trans (teq (b01_eq y0)).1) (by decide) (by decide) k) ?_
    show Go p e below _ (T_112.setTop (mkF m 49 #[.val (.ref a1), .val (.int (0 : Int32))] []))
    refine Go.step (fun _ k => XS.aloadN X_112.here hx rfl (hb hby d_prog_48_method_3_code_49) rfl rfl k) ?_
    show Go p e below _ (T_112.setTop (mkF m 50 #[.val (.ref a1), .val (.int (0 : Int32))] [(.ref a1)]))
    obtain ⟨T_157, X_157, e_157, st_157⟩ := getF X_112 hx hZ hown (host := "") (Or.inl (wd_40 hw)) Via.refl e_112 F_p (g := (mkF m 50 #[.val (.ref a1), .val (.int (0 : Int32))] [(.ref a1)])) rfl rfl (hb hby d_prog_48_method_3_code_50)
    refine Go.step st_157 ?_
    show Go p e below _ (T_157.setTop (mkF m 53 #[.val (.ref a1), .val (.int (0 : Int32))] [(.int (0 : Int32))]))
    refine Go.step (fun _ k => XS.iloadN X_157.here hx rfl (hb hby d_prog_48_method_3_code_53) rfl  k) ?_
    show Go p e below _ (T_157.setTop (mkF m 54 #[.val (.ref a1), .val (.int (0 : Int32))] [(.int (0 : Int32)), (.int (0 : Int32))]))
    refine Go.step (fun _ k => XS.isub X_157.here hx rfl (hb hby d_prog_48_method_3_code_54) rfl k) ?_
    show Go p e below _ (T_157.setTop (mkF m 55 #[.val (.ref a1), .val (.int (0 : Int32))] [(.int ((0 : Int32) - (0 : Int32)))]))
    refine own_top (congrArg Value.int (show ((0 : Int32) - (0 : Int32)) = (0 : Int32) from by decide)) ?_
    show Go p e below _ (T_157.setTop (mkF m 55 #[.val (.ref a1), .val (.int (0 : Int32))] [(.int (0 : Int32))]))
    exact Go.retV X_157 hx hlk hret rfl (Or.inl ⟨rfl, Or.inl rfl, _, rfl⟩) (hb hby d_prog_48_method_3_code_55) (by decide) (by decide) (by rw [e_157]; exact ⟨(0 : Int32), (0 : Int32), rfl, N_112, KP0, F_t, F_p, ⟨fun q => absurd q (by decide), fun q => absurd q.1 y0⟩⟩)
--@E
--@C law
def Q_law (Z : State) (zc : Int32) (vfm : Value) (p0 : Int32) (p1 : Int32) (p2 : Int32) (p3 : Int32) (h0 : Heap) (n0 : Nat) (v : Option Value) (h : Heap) (L : List Loc) : Prop := v = some (.int (1 : Int32)) ∧ Fr n0 L
set_option maxRecDepth 65536 in
set_option maxHeartbeats 40000000 in
theorem rm_law (l : Launch) (Z : State) (a0 : Array Value) (hw : ∀ d ∈ tables_1, d.before a0 Z = true) (zc : Int32) (vfm : Value) (p0 : Int32) (p1 : Int32) (p2 : Int32) (p3 : Int32) (h0 : Heap) (n0 : Nat) (Z0 : n0 ≤ h0.size) (hSt : St Z zc vfm) (hO : Old Z n0 h0) :
    CW l Z EL x (Jvm.Cond.code x code maxLocals ret :: tables_1) room_1 #[(.int p0), (.int p1), (.int p2), (.int p3)] h0 (Q_law Z zc vfm p0 p1 p2 p3 h0 n0) := by
  refine CW.of (L0 := #[.val (.int p0), .val (.int p1), .val (.int p2), .val (.int p3), .unset, .unset, .unset, .unset, .unset, .unset, .unset, .unset, .unset, .unset, .unset]) (plainFor_of_name pn_0) (fun m => by first | (simp [entryFrame, mkF, argsToLocals, Value.category, maxLocals]; done) | rfl) ?_
  intro p e s m below meth c s₁ hx hby hml hret hlk hZ hown hnm X0 e0 hS0 hk0 CV0 hh0
  have hEL := hEL_ (a0 := a0) hw
  have hwS := hwS_ hw
  have N0 := Fr.nil n0
  have KP0 := Keep.refl h0 []
  have hSt_ := hSt
  obtain ⟨S_cs, n_cs, S_fm, r_fm⟩ := hSt_
  show Go p e below _ (s₁.setTop (mkF m 0 #[.val (.int p0), .val (.int p1), .val (.int p2), .val (.int p3), .unset, .unset, .unset, .unset, .unset, .unset, .unset, .unset, .unset, .unset, .unset] []))
  refine Go.step (fun _ k => XS.iloadN X0.here hx rfl (hb hby at_0) rfl  k) ?_
  show Go p e below _ (s₁.setTop (mkF m 1 #[.val (.int p0), .val (.int p1), .val (.int p2), .val (.int p3), .unset, .unset, .unset, .unset, .unset, .unset, .unset, .unset, .unset, .unset, .unset] [(.int p0)]))
  refine Go.step (fun _ k => XS.iconst X0.here hx rfl (hb hby at_1) k) ?_
  show Go p e below _ (s₁.setTop (mkF m 2 #[.val (.int p0), .val (.int p1), .val (.int p2), .val (.int p3), .unset, .unset, .unset, .unset, .unset, .unset, .unset, .unset, .unset, .unset, .unset] [(.int (3 : Int32)), (.int p0)]))
  refine Go.step (fun _ k => XS.iand X0.here hx rfl (hb hby at_2) rfl k) ?_
  show Go p e below _ (s₁.setTop (mkF m 3 #[.val (.int p0), .val (.int p1), .val (.int p2), .val (.int p3), .unset, .unset, .unset, .unset, .unset, .unset, .unset, .unset, .unset, .unset, .unset] [(.int (p0 &&& (3 : Int32)))]))
  refine Go.step (fun _ k => XS.istore X0.here hx rfl (hb hby at_3) rfl (l' := #[.val (.int p0), .val (.int p1), .val (.int p2), .val (.int p3), .val (.int (p0 &&& (3 : Int32))), .unset, .unset, .unset, .unset, .unset, .unset, .unset, .unset, .unset, .unset]) rfl k) ?_
  show Go p e below _ (s₁.setTop (mkF m 5 #[.val (.int p0), .val (.int p1), .val (.int p2), .val (.int p3), .val (.int (p0 &&& (3 : Int32))), .unset, .unset, .unset, .unset, .unset, .unset, .unset, .unset, .unset, .unset] []))
  obtain ⟨nn, h_nn⟩ : ∃ z, z = (p0 &&& (3 : Int32)) := ⟨_, rfl⟩
  rw [← h_nn]
  show Go p e below _ (s₁.setTop (mkF m 5 #[.val (.int p0), .val (.int p1), .val (.int p2), .val (.int p3), .val (.int nn), .unset, .unset, .unset, .unset, .unset, .unset, .unset, .unset, .unset, .unset] []))
  have h_n4 : nn = 0 ∨ nn = 1 ∨ nn = 2 ∨ nn = 3 := by rw [h_nn]; exact range4 _
  clear h_nn
  show Go p e below _ (s₁.setTop (mkF m 5 #[.val (.int p0), .val (.int p1), .val (.int p2), .val (.int p3), .val (.int nn), .unset, .unset, .unset, .unset, .unset, .unset, .unset, .unset, .unset, .unset] []))
  rcases h_n4 with rfl | rfl | rfl | rfl
  · skip
    show Go p e below _ (s₁.setTop (mkF m 5 #[.val (.int p0), .val (.int p1), .val (.int p2), .val (.int p3), .val (.int (0 : Int32)), .unset, .unset, .unset, .unset, .unset, .unset, .unset, .unset, .unset, .unset] []))
    refine Go.step (fun _ k => XS.iloadN X0.here hx rfl (hb hby at_5) rfl  k) ?_
    show Go p e below _ (s₁.setTop (mkF m 6 #[.val (.int p0), .val (.int p1), .val (.int p2), .val (.int p3), .val (.int (0 : Int32)), .unset, .unset, .unset, .unset, .unset, .unset, .unset, .unset, .unset, .unset] [(.int p1)]))
    obtain ⟨v_158, T_158, L_158, X_158, hQ_158, st_158⟩ := goS X0 hx hZ (y := ({ cls := "com/example/sigyn/sigyn/sip/SipScannerAtEndPinLaw", name := "draw", desc := "(I)C" } : Jvm.MethodName)) hown (wd_0 hw) (wd_1 hw) (wd_2 hw) (wd_3 hw) (by decide) (backOf (W := 0) (rm_draw l Z a0 hw zc vfm (p1) h0 n0 (Nat.le_trans Z0 KP0.1) hSt hO) hZ (wd_3 hw) (wd_2 hw) (by decide) (by decide)) e0 (g := (mkF m 6 #[.val (.int p0), .val (.int p1), .val (.int p2), .val (.int p3), .val (.int (0 : Int32)), .unset, .unset, .unset, .unset, .unset, .unset, .unset, .unset, .unset, .unset] [(.int p1)])) rfl (by rw [hml]; rfl) (argsL := [(.int p1)]) (rest := []) rfl (lenOf pd_2 rfl) rfl (by show 2 * 0 + _ ≤ _; exact Nat.le_of_eq rfl) (hb hby at_6) (by decide) (by decide)
    obtain ⟨v1_158, rfl, Nq_158, e_158, u0_158⟩ := hQ_158
    have N_158 := Fr.app N0 Nq_158
    have hlat_158 := u0_158
    refine Go.step st_158 ?_
    show Go p e below _ (T_158.setTop (mkF m 9 #[.val (.int p0), .val (.int p1), .val (.int p2), .val (.int p3), .val (.int (0 : Int32)), .unset, .unset, .unset, .unset, .unset, .unset, .unset, .unset, .unset, .unset] [(.int v1_158)]))
    refine Go.step (fun _ k => XS.istore X_158.here hx rfl (hb hby at_9) rfl (l' := #[.val (.int p0), .val (.int p1), .val (.int p2), .val (.int p3), .val (.int (0 : Int32)), .val (.int v1_158), .unset, .unset, .unset, .unset, .unset, .unset, .unset, .unset, .unset]) rfl k) ?_
    show Go p e below _ (T_158.setTop (mkF m 11 #[.val (.int p0), .val (.int p1), .val (.int p2), .val (.int p3), .val (.int (0 : Int32)), .val (.int v1_158), .unset, .unset, .unset, .unset, .unset, .unset, .unset, .unset, .unset] []))
    refine Go.step (fun _ k => XS.iloadN X_158.here hx rfl (hb hby at_11) rfl  k) ?_
    show Go p e below _ (T_158.setTop (mkF m 12 #[.val (.int p0), .val (.int p1), .val (.int p2), .val (.int p3), .val (.int (0 : Int32)), .val (.int v1_158), .unset, .unset, .unset, .unset, .unset, .unset, .unset, .unset, .unset] [(.int p2)]))
    obtain ⟨v_159, T_159, L_159, X_159, hQ_159, st_159⟩ := goS X_158 hx hZ (y := ({ cls := "com/example/sigyn/sigyn/sip/SipScannerAtEndPinLaw", name := "draw", desc := "(I)C" } : Jvm.MethodName)) hown (wd_0 hw) (wd_1 hw) (wd_2 hw) (wd_3 hw) (by decide) (backOf (W := 0) (rm_draw l Z a0 hw zc vfm (p2) h0 n0 (Nat.le_trans Z0 KP0.1) hSt hO) hZ (wd_3 hw) (wd_2 hw) (by decide) (by decide)) e_158 (g := (mkF m 12 #[.val (.int p0), .val (.int p1), .val (.int p2), .val (.int p3), .val (.int (0 : Int32)), .val (.int v1_158), .unset, .unset, .unset, .unset, .unset, .unset, .unset, .unset, .unset] [(.int p2)])) rfl (by rw [hml]; rfl) (argsL := [(.int p2)]) (rest := []) rfl (lenOf pd_2 rfl) rfl (by show 2 * 0 + _ ≤ _; exact Nat.le_of_eq rfl) (hb hby at_12) (by decide) (by decide)
    obtain ⟨v1_159, rfl, Nq_159, e_159, u0_159⟩ := hQ_159
    have N_159 := Fr.app N_158 Nq_159
    have hlat_159 := u0_159
    refine Go.step st_159 ?_
    show Go p e below _ (T_159.setTop (mkF m 15 #[.val (.int p0), .val (.int p1), .val (.int p2), .val (.int p3), .val (.int (0 : Int32)), .val (.int v1_158), .unset, .unset, .unset, .unset, .unset, .unset, .unset, .unset, .unset] [(.int v1_159)]))
    refine Go.step (fun _ k => XS.istore X_159.here hx rfl (hb hby at_15) rfl (l' := #[.val (.int p0), .val (.int p1), .val (.int p2), .val (.int p3), .val (.int (0 : Int32)), .val (.int v1_158), .val (.int v1_159), .unset, .unset, .unset, .unset, .unset, .unset, .unset, .unset]) rfl k) ?_
    show Go p e below _ (T_159.setTop (mkF m 17 #[.val (.int p0), .val (.int p1), .val (.int p2), .val (.int p3), .val (.int (0 : Int32)), .val (.int v1_158), .val (.int v1_159), .unset, .unset, .unset, .unset, .unset, .unset, .unset, .unset] []))
    refine Go.step (fun _ k => XS.iloadN X_159.here hx rfl (hb hby at_17) rfl  k) ?_
    show Go p e below _ (T_159.setTop (mkF m 18 #[.val (.int p0), .val (.int p1), .val (.int p2), .val (.int p3), .val (.int (0 : Int32)), .val (.int v1_158), .val (.int v1_159), .unset, .unset, .unset, .unset, .unset, .unset, .unset, .unset] [(.int p3)]))
    obtain ⟨v_160, T_160, L_160, X_160, hQ_160, st_160⟩ := goS X_159 hx hZ (y := ({ cls := "com/example/sigyn/sigyn/sip/SipScannerAtEndPinLaw", name := "draw", desc := "(I)C" } : Jvm.MethodName)) hown (wd_0 hw) (wd_1 hw) (wd_2 hw) (wd_3 hw) (by decide) (backOf (W := 0) (rm_draw l Z a0 hw zc vfm (p3) h0 n0 (Nat.le_trans Z0 KP0.1) hSt hO) hZ (wd_3 hw) (wd_2 hw) (by decide) (by decide)) e_159 (g := (mkF m 18 #[.val (.int p0), .val (.int p1), .val (.int p2), .val (.int p3), .val (.int (0 : Int32)), .val (.int v1_158), .val (.int v1_159), .unset, .unset, .unset, .unset, .unset, .unset, .unset, .unset] [(.int p3)])) rfl (by rw [hml]; rfl) (argsL := [(.int p3)]) (rest := []) rfl (lenOf pd_2 rfl) rfl (by show 2 * 0 + _ ≤ _; exact Nat.le_of_eq rfl) (hb hby at_18) (by decide) (by decide)
    obtain ⟨v1_160, rfl, Nq_160, e_160, u0_160⟩ := hQ_160
    have N_160 := Fr.app N_159 Nq_160
    have hlat_160 := u0_160
    refine Go.step st_160 ?_
    show Go p e below _ (T_160.setTop (mkF m 21 #[.val (.int p0), .val (.int p1), .val (.int p2), .val (.int p3), .val (.int (0 : Int32)), .val (.int v1_158), .val (.int v1_159), .unset, .unset, .unset, .unset, .unset, .unset, .unset, .unset] [(.int v1_160)]))
    refine Go.step (fun _ k => XS.istore X_160.here hx rfl (hb hby at_21) rfl (l' := #[.val (.int p0), .val (.int p1), .val (.int p2), .val (.int p3), .val (.int (0 : Int32)), .val (.int v1_158), .val (.int v1_159), .val (.int v1_160), .unset, .unset, .unset, .unset, .unset, .unset, .unset]) rfl k) ?_
    show Go p e below _ (T_160.setTop (mkF m 23 #[.val (.int p0), .val (.int p1), .val (.int p2), .val (.int p3), .val (.int (0 : Int32)), .val (.int v1_158), .val (.int v1_159), .val (.int v1_160), .unset, .unset, .unset, .unset, .unset, .unset, .unset] []))
    refine Go.step (fun _ k => XS.iload X_160.here hx rfl (hb hby at_23) rfl  k) ?_
    show Go p e below _ (T_160.setTop (mkF m 25 #[.val (.int p0), .val (.int p1), .val (.int p2), .val (.int p3), .val (.int (0 : Int32)), .val (.int v1_158), .val (.int v1_159), .val (.int v1_160), .unset, .unset, .unset, .unset, .unset, .unset, .unset] [(.int (0 : Int32))]))
    obtain ⟨T_161, h_161, k_161, X_161, e_161, E_161, A_161, st_161⟩ := newP X_160 hx hZ (aty := .char) (wd_4 hw) e_160 (g := (mkF m 25 #[.val (.int p0), .val (.int p1), .val (.int p2), .val (.int p3), .val (.int (0 : Int32)), .val (.int v1_158), .val (.int v1_159), .val (.int v1_160), .unset, .unset, .unset, .unset, .unset, .unset, .unset] [(.int (0 : Int32))])) rfl (hb hby at_25) rfl (by decide) (cap := 0) (by decide) (by decide) (by decide) (by decide)
    obtain ⟨b161, q_161⟩ : ∃ z, z = h0.size := ⟨_, rfl⟩
    rw [← q_161] at A_161 st_161
    refine Go.step st_161 ?_
    have C_161 := CHr.ext E_161 CV0
    have CR_161 := CHr.trans (CHr.refl CV0) C_161
    have le_161 : h0.size ≤ h_161.size := E_161.1
    have KP_161 := KP0.ext E_161
    have O_161 := hO.ext E_161
    have ge_161 : h0.size ≤ b161 := Nat.le_of_eq q_161.symm
    have sz_b161 : h0.size ≤ b161 := Nat.le_trans (Nat.le_refl _) ge_161
    have g_b161 : n0 ≤ b161 := Nat.le_trans Z0 sz_b161
    have V_161 : Arv Z h_161 b161 k_161 .char (0 : Int32) [] (.int (0 : Int32)) := Arv.new A_161 (by decide)
    have Sf_b161 := Safe.ext E_161 CV0 (Safe.new ge_161)
    show Go p e below _ (T_161.setTop (mkF m 27 #[.val (.int p0), .val (.int p1), .val (.int p2), .val (.int p3), .val (.int (0 : Int32)), .val (.int v1_158), .val (.int v1_159), .val (.int v1_160), .unset, .unset, .unset, .unset, .unset, .unset, .unset] [(.ref b161)]))
    refine Go.step (fun _ k => XS.astore X_161.here hx rfl (hb hby at_27) rfl rfl (l' := #[.val (.int p0), .val (.int p1), .val (.int p2), .val (.int p3), .val (.int (0 : Int32)), .val (.int v1_158), .val (.int v1_159), .val (.int v1_160), .val (.ref b161), .unset, .unset, .unset, .unset, .unset, .unset]) rfl k) ?_
    show Go p e below _ (T_161.setTop (mkF m 29 #[.val (.int p0), .val (.int p1), .val (.int p2), .val (.int p3), .val (.int (0 : Int32)), .val (.int v1_158), .val (.int v1_159), .val (.int v1_160), .val (.ref b161), .unset, .unset, .unset, .unset, .unset, .unset] []))
    refine Go.step (fun _ k => XS.iload X_161.here hx rfl (hb hby at_29) rfl  k) ?_
    show Go p e below _ (T_161.setTop (mkF m 31 #[.val (.int p0), .val (.int p1), .val (.int p2), .val (.int p3), .val (.int (0 : Int32)), .val (.int v1_158), .val (.int v1_159), .val (.int v1_160), .val (.ref b161), .unset, .unset, .unset, .unset, .unset, .unset] [(.int (0 : Int32))]))
    refine Go.step (fun _ k => XS.ifYes X_161.here hx rfl (pc0 := 31) (pc' := 40) rfl (hb hby at_31) rfl ((if0 _ _).trans (flt ((by decide) : ¬ ((0 : Int32) < (0 : Int32)))).2.2.2) (by decide) (by decide) k) ?_
    show Go p e below _ (T_161.setTop (mkF m 40 #[.val (.int p0), .val (.int p1), .val (.int p2), .val (.int p3), .val (.int (0 : Int32)), .val (.int v1_158), .val (.int v1_159), .val (.int v1_160), .val (.ref b161), .unset, .unset, .unset, .unset, .unset, .unset] []))
    refine Go.step (fun _ k => XS.iload X_161.here hx rfl (hb hby at_40) rfl  k) ?_
    show Go p e below _ (T_161.setTop (mkF m 42 #[.val (.int p0), .val (.int p1), .val (.int p2), .val (.int p3), .val (.int (0 : Int32)), .val (.int v1_158), .val (.int v1_159), .val (.int v1_160), .val (.ref b161), .unset, .unset, .unset, .unset, .unset, .unset] [(.int (0 : Int32))]))
    refine Go.step (fun _ k => XS.iconst X_161.here hx rfl (hb hby at_42) k) ?_
    show Go p e below _ (T_161.setTop (mkF m 43 #[.val (.int p0), .val (.int p1), .val (.int p2), .val (.int p3), .val (.int (0 : Int32)), .val (.int v1_158), .val (.int v1_159), .val (.int v1_160), .val (.ref b161), .unset, .unset, .unset, .unset, .unset, .unset] [(.int (1 : Int32)), (.int (0 : Int32))]))
    refine Go.step (fun _ k => XS.icmpYes X_161.here hx rfl (pc0 := 43) (pc' := 52) rfl (hb hby at_43) rfl (flt ((by decide) : ¬ ((1 : Int32) < (0 : Int32)))).2.2.2 (by decide) (by decide) k) ?_
    show Go p e below _ (T_161.setTop (mkF m 52 #[.val (.int p0), .val (.int p1), .val (.int p2), .val (.int p3), .val (.int (0 : Int32)), .val (.int v1_158), .val (.int v1_159), .val (.int v1_160), .val (.ref b161), .unset, .unset, .unset, .unset, .unset, .unset] []))
    refine Go.step (fun _ k => XS.iload X_161.here hx rfl (hb hby at_52) rfl  k) ?_
    show Go p e below _ (T_161.setTop (mkF m 54 #[.val (.int p0), .val (.int p1), .val (.int p2), .val (.int p3), .val (.int (0 : Int32)), .val (.int v1_158), .val (.int v1_159), .val (.int v1_160), .val (.ref b161), .unset, .unset, .unset, .unset, .unset, .unset] [(.int (0 : Int32))]))
    refine Go.step (fun _ k => XS.iconst X_161.here hx rfl (hb hby at_54) k) ?_
    show Go p e below _ (T_161.setTop (mkF m 55 #[.val (.int p0), .val (.int p1), .val (.int p2), .val (.int p3), .val (.int (0 : Int32)), .val (.int v1_158), .val (.int v1_159), .val (.int v1_160), .val (.ref b161), .unset, .unset, .unset, .unset, .unset, .unset] [(.int (2 : Int32)), (.int (0 : Int32))]))
    refine Go.step (fun _ k => XS.icmpYes X_161.here hx rfl (pc0 := 55) (pc' := 64) rfl (hb hby at_55) rfl (flt ((by decide) : ¬ ((2 : Int32) < (0 : Int32)))).2.2.2 (by decide) (by decide) k) ?_
    show Go p e below _ (T_161.setTop (mkF m 64 #[.val (.int p0), .val (.int p1), .val (.int p2), .val (.int p3), .val (.int (0 : Int32)), .val (.int v1_158), .val (.int v1_159), .val (.int v1_160), .val (.ref b161), .unset, .unset, .unset, .unset, .unset, .unset] []))
    obtain ⟨T_162, h_162, X_162, e_162, E_162, A_162, D_162, -, st_162⟩ := newO X_161 hx hZ hown (wd_5 hw) (wd_6 hw) (wd_7 hw) e_161 (g := (mkF m 64 #[.val (.int p0), .val (.int p1), .val (.int p2), .val (.int p3), .val (.int (0 : Int32)), .val (.int v1_158), .val (.int v1_159), .val (.int v1_160), .val (.ref b161), .unset, .unset, .unset, .unset, .unset, .unset] [])) rfl (hb hby at_64) (by decide) (by decide)
    obtain ⟨b162, q_162⟩ : ∃ z, z = h_161.size := ⟨_, rfl⟩
    rw [← q_162] at A_162 D_162 st_162
    refine Go.step st_162 ?_
    have C_162 := CHr.ext E_162 C_161.1
    have CR_162 := CHr.trans CR_161 C_162
    have le_162 : h_161.size ≤ h_162.size := E_162.1
    have KP_162 := KP_161.ext E_162
    have O_162 := O_161.ext E_162
    have ge_162 : h_161.size ≤ b162 := Nat.le_of_eq q_162.symm
    have sz_b162 : h0.size ≤ b162 := Nat.le_trans le_161 ge_162
    have g_b162 : n0 ≤ b162 := Nat.le_trans Z0 sz_b162
    have F_162_20 : Fld Z h_162 b162 "java/lang/String" "value" "[B" .null := D_162 (Or.inr (wd_20 hw)) (ty := (.array .byte)) pf_0
    have F_162_21 : Fld Z h_162 b162 "java/lang/String" "coder" "B" (.int (0 : Int32)) := D_162 (Or.inr (wd_21 hw)) (ty := .byte) pf_1
    have Sf_b162 := Safe.ext E_162 C_161.1 (Safe.new ge_162)
    show Go p e below _ (T_162.setTop (mkF m 67 #[.val (.int p0), .val (.int p1), .val (.int p2), .val (.int p3), .val (.int (0 : Int32)), .val (.int v1_158), .val (.int v1_159), .val (.int v1_160), .val (.ref b161), .unset, .unset, .unset, .unset, .unset, .unset] [(.ref b162)]))
    refine Go.step (fun _ k => XS.dup X_162.here hx rfl (hb hby at_67) rfl rfl k) ?_
    show Go p e below _ (T_162.setTop (mkF m 68 #[.val (.int p0), .val (.int p1), .val (.int p2), .val (.int p3), .val (.int (0 : Int32)), .val (.int v1_158), .val (.int v1_159), .val (.int v1_160), .val (.ref b161), .unset, .unset, .unset, .unset, .unset, .unset] [(.ref b162), (.ref b162)]))
    refine Go.step (fun _ k => XS.aload X_162.here hx rfl (hb hby at_68) rfl rfl k) ?_
    show Go p e below _ (T_162.setTop (mkF m 70 #[.val (.int p0), .val (.int p1), .val (.int p2), .val (.int p3), .val (.int (0 : Int32)), .val (.int v1_158), .val (.int v1_159), .val (.int v1_160), .val (.ref b161), .unset, .unset, .unset, .unset, .unset, .unset] [(.ref b161), (.ref b162), (.ref b162)]))
    have f163 : Arv Z h_162 b161 k_161 .char (0 : Int32) [] (.int (0 : Int32)) := (V_161.ext E_162)
    obtain ⟨v_164, T_164, L_164, X_164, hQ_164, hS_164, hZ_164, hown_164, C_164, st_164⟩ := goCW X_162 hx hZ (y := ({ cls := "java/lang/String", name := "<init>", desc := "([C)V" } : Jvm.MethodName)) hown hS0 (Nat.le_trans hk0 (Nat.le_trans le_161 le_162)) rfl (wd_8 hw) (wd_9 hw) (wd_10 hw) (by decide) (backOfSH (W := 1) (rm_init1e l Z a0 hw zc vfm (b162) (b161) (k_161) h_162 n0 (Nat.le_trans Z0 KP_162.1) A_162 F_162_20 F_162_21 g_b162 f163 hSt O_162) hZ (wd_10 hw) (wd_7 hw) (by decide) (by decide) hEL C_162.1) e_162 (g := (mkF m 70 #[.val (.int p0), .val (.int p1), .val (.int p2), .val (.int p3), .val (.int (0 : Int32)), .val (.int v1_158), .val (.int v1_159), .val (.int v1_160), .val (.ref b161), .unset, .unset, .unset, .unset, .unset, .unset] [(.ref b161), (.ref b162), (.ref b162)])) rfl (by rw [hml]; rfl) (a := b162) (argsL := [(.ref b161)]) (rest := [(.ref b162)]) rfl (lenOf pd_4 rfl) rfl (by show 2 * 0 + _ ≤ _; exact Nat.le_of_eq rfl) (hb hby at_70) (by decide) (by decide)
    obtain ⟨rfl, Nq_164, K_164, u0_164⟩ := hQ_164
    have N_164 := Fr.app N_160 Nq_164
    have CR_164 := CHr.trans CR_162 C_164
    have le_164 : h_162.size ≤ T_164.heap.size := K_164.1
    have KP_164 := KP_162.trans K_164 (allS (Or.inr sz_b162) all0)
    have O_164 := O_162.keep K_164 (allS g_b162 all0)
    refine Go.step st_164 ?_
    show Go p e below _ (T_164.setTop (mkF m 73 #[.val (.int p0), .val (.int p1), .val (.int p2), .val (.int p3), .val (.int (0 : Int32)), .val (.int v1_158), .val (.int v1_159), .val (.int v1_160), .val (.ref b161), .unset, .unset, .unset, .unset, .unset, .unset] [(.ref b162)]))
    refine Go.step (fun _ k => XS.astore X_164.here hx rfl (hb hby at_73) rfl rfl (l' := #[.val (.int p0), .val (.int p1), .val (.int p2), .val (.int p3), .val (.int (0 : Int32)), .val (.int v1_158), .val (.int v1_159), .val (.int v1_160), .val (.ref b161), .val (.ref b162), .unset, .unset, .unset, .unset, .unset]) rfl k) ?_
    show Go p e below _ (T_164.setTop (mkF m 75 #[.val (.int p0), .val (.int p1), .val (.int p2), .val (.int p3), .val (.int (0 : Int32)), .val (.int v1_158), .val (.int v1_159), .val (.int v1_160), .val (.ref b161), .val (.ref b162), .unset, .unset, .unset, .unset, .unset] []))
    obtain ⟨T_165, h_165, X_165, e_165, E_165, A_165, D_165, -, st_165⟩ := newO X_164 hx hZ_164 hown_164 (wd_26 hw) (wd_27 hw) (wd_28 hw) rfl (g := (mkF m 75 #[.val (.int p0), .val (.int p1), .val (.int p2), .val (.int p3), .val (.int (0 : Int32)), .val (.int v1_158), .val (.int v1_159), .val (.int v1_160), .val (.ref b161), .val (.ref b162), .unset, .unset, .unset, .unset, .unset] [])) rfl (hb hby at_75) (by decide) (by decide)
    obtain ⟨b165, q_165⟩ : ∃ z, z = T_164.heap.size := ⟨_, rfl⟩
    rw [← q_165] at A_165 D_165 st_165
    refine Go.step st_165 ?_
    have C_165 := CHr.ext E_165 C_164.1
    have CR_165 := CHr.trans CR_164 C_165
    have le_165 : T_164.heap.size ≤ h_165.size := E_165.1
    have KP_165 := KP_164.ext E_165
    have O_165 := O_164.ext E_165
    have ge_165 : T_164.heap.size ≤ b165 := Nat.le_of_eq q_165.symm
    have sz_b165 : h0.size ≤ b165 := Nat.le_trans (Nat.le_trans le_161 (Nat.le_trans le_162 le_164)) ge_165
    have g_b165 : n0 ≤ b165 := Nat.le_trans Z0 sz_b165
    have F_165_34 : Fld Z h_165 b165 "com/example/sigyn/sigyn/sip/SipScanner" "text" "Ljava/lang/String;" .null := D_165 (Or.inr (wd_34 hw)) (ty := (.object "java/lang/String")) pf_2
    have F_165_41 : Fld Z h_165 b165 "com/example/sigyn/sigyn/sip/SipScanner" "pos" "I" (.int (0 : Int32)) := D_165 (Or.inl (wd_41 hw)) (ty := .int) pf_3
    have Sf_b165 := Safe.ext E_165 C_164.1 (Safe.new ge_165)
    show Go p e below _ (T_165.setTop (mkF m 78 #[.val (.int p0), .val (.int p1), .val (.int p2), .val (.int p3), .val (.int (0 : Int32)), .val (.int v1_158), .val (.int v1_159), .val (.int v1_160), .val (.ref b161), .val (.ref b162), .unset, .unset, .unset, .unset, .unset] [(.ref b165)]))
    refine Go.step (fun _ k => XS.dup X_165.here hx rfl (hb hby at_78) rfl rfl k) ?_
    show Go p e below _ (T_165.setTop (mkF m 79 #[.val (.int p0), .val (.int p1), .val (.int p2), .val (.int p3), .val (.int (0 : Int32)), .val (.int v1_158), .val (.int v1_159), .val (.int v1_160), .val (.ref b161), .val (.ref b162), .unset, .unset, .unset, .unset, .unset] [(.ref b165), (.ref b165)]))
    refine Go.step (fun _ k => XS.aload X_165.here hx rfl (hb hby at_79) rfl rfl k) ?_
    show Go p e below _ (T_165.setTop (mkF m 81 #[.val (.int p0), .val (.int p1), .val (.int p2), .val (.int p3), .val (.int (0 : Int32)), .val (.int v1_158), .val (.int v1_159), .val (.int v1_160), .val (.ref b161), .val (.ref b162), .unset, .unset, .unset, .unset, .unset] [(.ref b162), (.ref b165), (.ref b165)]))
    obtain ⟨v_166, T_166, L_166, X_166, hQ_166, st_166⟩ := goC X_165 hx hZ_164 (y := ({ cls := "com/example/sigyn/sigyn/sip/SipScanner", name := "<init>", desc := "(Ljava/lang/String;)V" } : Jvm.MethodName)) hown_164 rfl (wd_29 hw) (wd_30 hw) (wd_31 hw) (by decide) (backOf (W := 1) (rm_initSS l Z a0 hw zc vfm (b165) (b162) h_165 n0 (Nat.le_trans Z0 KP_165.1) A_165 F_165_34 F_165_41 g_b165 hSt O_165) hZ_164 (wd_31 hw) (wd_28 hw) (by decide) (by decide)) e_165 (g := (mkF m 81 #[.val (.int p0), .val (.int p1), .val (.int p2), .val (.int p3), .val (.int (0 : Int32)), .val (.int v1_158), .val (.int v1_159), .val (.int v1_160), .val (.ref b161), .val (.ref b162), .unset, .unset, .unset, .unset, .unset] [(.ref b162), (.ref b165), (.ref b165)])) rfl (by rw [hml]; rfl) (a := b165) (argsL := [(.ref b162)]) (rest := [(.ref b165)]) rfl (lenOf pd_5 rfl) rfl (by show 2 * 0 + _ ≤ _; exact Nat.le_of_eq rfl) (hb hby at_81) (by decide) (by decide)
    obtain ⟨rfl, Nq_166, K_166, u0_166, u1_166⟩ := hQ_166
    have N_166 := Fr.app N_164 Nq_166
    have C_166 := CHr.keep K_166 (sfS (Safe.exa hZ_164.alike A_165 (by decide) (by decide)) sf0) C_165.1
    have CR_166 := CHr.trans CR_165 C_166
    have le_166 : h_165.size ≤ T_166.heap.size := K_166.1
    have KP_166 := KP_165.trans K_166 (allS (Or.inr sz_b165) all0)
    have O_166 := O_165.keep K_166 (allS g_b165 all0)
    refine Go.step st_166 ?_
    show Go p e below _ (T_166.setTop (mkF m 84 #[.val (.int p0), .val (.int p1), .val (.int p2), .val (.int p3), .val (.int (0 : Int32)), .val (.int v1_158), .val (.int v1_159), .val (.int v1_160), .val (.ref b161), .val (.ref b162), .unset, .unset, .unset, .unset, .unset] [(.ref b165)]))
    refine Go.step (fun _ k => XS.astore X_166.here hx rfl (hb hby at_84) rfl rfl (l' := #[.val (.int p0), .val (.int p1), .val (.int p2), .val (.int p3), .val (.int (0 : Int32)), .val (.int v1_158), .val (.int v1_159), .val (.int v1_160), .val (.ref b161), .val (.ref b162), .val (.ref b165), .unset, .unset, .unset, .unset]) rfl k) ?_
    show Go p e below _ (T_166.setTop (mkF m 86 #[.val (.int p0), .val (.int p1), .val (.int p2), .val (.int p3), .val (.int (0 : Int32)), .val (.int v1_158), .val (.int v1_159), .val (.int v1_160), .val (.ref b161), .val (.ref b162), .val (.ref b165), .unset, .unset, .unset, .unset] []))
    refine Go.step (fun _ k => XS.aload X_166.here hx rfl (hb hby at_86) rfl rfl k) ?_
    show Go p e below _ (T_166.setTop (mkF m 88 #[.val (.int p0), .val (.int p1), .val (.int p2), .val (.int p3), .val (.int (0 : Int32)), .val (.int v1_158), .val (.int v1_159), .val (.int v1_160), .val (.ref b161), .val (.ref b162), .val (.ref b165), .unset, .unset, .unset, .unset] [(.ref b165)]))
    have f167 : Str Z T_164.heap.size T_166.heap b162 ([] : List Int32) := ((u0_164.ext E_165).keep K_166 (allS (Nat.le_trans (Nat.le_refl _) ge_165) all0))
    have f169 : Exa Z T_166.heap b165 "com/example/sigyn/sigyn/sip/SipScanner" := (A_165.keep K_166)
    obtain ⟨v_168, T_168, L_168, X_168, hQ_168, st_168⟩ := goV X_166 hx hZ_164 (y := ({ cls := "com/example/sigyn/sigyn/sip/SipScanner", name := "atEnd", desc := "()Z" } : Jvm.MethodName)) (z := ({ cls := "com/example/sigyn/sigyn/sip/SipScanner", name := "atEnd", desc := "()Z" } : Jvm.MethodName)) hown_164 (wd_35 hw) (wd_36 hw) (notFace_of_selects (args := #[]) (mvT hZ_164 (wd_38 hw))) (wd_38 hw) (wd_37 hw) (by decide) (backOf (W := 0) (rm_atEnd l Z a0 hw zc vfm (b165) ((0 : Int32)) (b162) (([] : List Int32)) ((0 : Int32)) T_166.heap n0 (Nat.le_trans Z0 KP_166.1) u0_166 u1_166 (f167.mono (Nat.le_trans le_165 le_166)) rfl hSt O_166) hZ_164 (wd_39 hw) (wd_28 hw) (by decide) (by decide)) rfl f169 (g := (mkF m 88 #[.val (.int p0), .val (.int p1), .val (.int p2), .val (.int p3), .val (.int (0 : Int32)), .val (.int v1_158), .val (.int v1_159), .val (.int v1_160), .val (.ref b161), .val (.ref b162), .val (.ref b165), .unset, .unset, .unset, .unset] [(.ref b165)])) rfl (by rw [hml]; rfl) (argsL := []) (rest := []) rfl (lenOf pd_6 rfl) rfl (by show 2 * 0 + _ ≤ _; exact Nat.le_of_eq rfl) (hb hby at_88) (by decide) (by decide)
    obtain ⟨rfl, Nq_168, e_168⟩ := hQ_168
    have N_168 := Fr.app N_166 Nq_168
    refine Go.step st_168 ?_
    show Go p e below _ (T_168.setTop (mkF m 91 #[.val (.int p0), .val (.int p1), .val (.int p2), .val (.int p3), .val (.int (0 : Int32)), .val (.int v1_158), .val (.int v1_159), .val (.int v1_160), .val (.ref b161), .val (.ref b162), .val (.ref b165), .unset, .unset, .unset, .unset] [(.int (if (0 : Int32) = (0 : Int32) then (1 : Int32) else 0))]))
    refine Go.step (fun _ k => XS.istore X_168.here hx rfl (hb hby at_91) rfl (l' := #[.val (.int p0), .val (.int p1), .val (.int p2), .val (.int p3), .val (.int (0 : Int32)), .val (.int v1_158), .val (.int v1_159), .val (.int v1_160), .val (.ref b161), .val (.ref b162), .val (.ref b165), .val (.int (if (0 : Int32) = (0 : Int32) then (1 : Int32) else 0)), .unset, .unset, .unset]) rfl k) ?_
    show Go p e below _ (T_168.setTop (mkF m 93 #[.val (.int p0), .val (.int p1), .val (.int p2), .val (.int p3), .val (.int (0 : Int32)), .val (.int v1_158), .val (.int v1_159), .val (.int v1_160), .val (.ref b161), .val (.ref b162), .val (.ref b165), .val (.int (if (0 : Int32) = (0 : Int32) then (1 : Int32) else 0)), .unset, .unset, .unset] []))
    refine Go.step (fun _ k => XS.iload X_168.here hx rfl (hb hby at_93) rfl  k) ?_
    show Go p e below _ (T_168.setTop (mkF m 95 #[.val (.int p0), .val (.int p1), .val (.int p2), .val (.int p3), .val (.int (0 : Int32)), .val (.int v1_158), .val (.int v1_159), .val (.int v1_160), .val (.ref b161), .val (.ref b162), .val (.ref b165), .val (.int (if (0 : Int32) = (0 : Int32) then (1 : Int32) else 0)), .unset, .unset, .unset] [(.int (if (0 : Int32) = (0 : Int32) then (1 : Int32) else 0))]))
    refine Go.step (fun _ k => XS.iload X_168.here hx rfl (hb hby at_95) rfl  k) ?_
    show Go p e below _ (T_168.setTop (mkF m 97 #[.val (.int p0), .val (.int p1), .val (.int p2), .val (.int p3), .val (.int (0 : Int32)), .val (.int v1_158), .val (.int v1_159), .val (.int v1_160), .val (.ref b161), .val (.ref b162), .val (.ref b165), .val (.int (if (0 : Int32) = (0 : Int32) then (1 : Int32) else 0)), .unset, .unset, .unset] [(.int (0 : Int32)), (.int (if (0 : Int32) = (0 : Int32) then (1 : Int32) else 0))]))
    refine Go.step (fun _ k => XS.ifNo X_168.here hx rfl (hb hby at_97) rfl ((if0 _ _).trans (teq ((by decide) : (0 : Int32) = (0 : Int32))).2) k) ?_
    show Go p e below _ (T_168.setTop (mkF m 100 #[.val (.int p0), .val (.int p1), .val (.int p2), .val (.int p3), .val (.int (0 : Int32)), .val (.int v1_158), .val (.int v1_159), .val (.int v1_160), .val (.ref b161), .val (.ref b162), .val (.ref b165), .val (.int (if (0 : Int32) = (0 : Int32) then (1 : Int32) else 0)), .unset, .unset, .unset] [(.int (if (0 : Int32) = (0 : Int32) then (1 : Int32) else 0))]))
    refine Go.step (fun _ k => XS.iconst X_168.here hx rfl (hb hby at_100) k) ?_
    show Go p e below _ (T_168.setTop (mkF m 101 #[.val (.int p0), .val (.int p1), .val (.int p2), .val (.int p3), .val (.int (0 : Int32)), .val (.int v1_158), .val (.int v1_159), .val (.int v1_160), .val (.ref b161), .val (.ref b162), .val (.ref b165), .val (.int (if (0 : Int32) = (0 : Int32) then (1 : Int32) else 0)), .unset, .unset, .unset] [(.int (1 : Int32)), (.int (if (0 : Int32) = (0 : Int32) then (1 : Int32) else 0))]))
    refine Go.step (fun _ k => XS.goto X_168.here hx rfl (pc0 := 101) (pc' := 105) rfl (hb hby at_101) (by decide) (by decide) k) ?_
    show Go p e below _ (T_168.setTop (mkF m 105 #[.val (.int p0), .val (.int p1), .val (.int p2), .val (.int p3), .val (.int (0 : Int32)), .val (.int v1_158), .val (.int v1_159), .val (.int v1_160), .val (.ref b161), .val (.ref b162), .val (.ref b165), .val (.int (if (0 : Int32) = (0 : Int32) then (1 : Int32) else 0)), .unset, .unset, .unset] [(.int (1 : Int32)), (.int (if (0 : Int32) = (0 : Int32) then (1 : Int32) else 0))]))
    refine Go.step (fun _ k => XS.icmpYes X_168.here hx rfl (pc0 := 105) (pc' := 110) rfl (hb hby at_105) rfl (teq ((by decide) : (if (0 : Int32) = (0 : Int32) then (1 : Int32) else 0) = (1 : Int32))).1 (by decide) (by decide) k) ?_
    show Go p e below _ (T_168.setTop (mkF m 110 #[.val (.int p0), .val (.int p1), .val (.int p2), .val (.int p3), .val (.int (0 : Int32)), .val (.int v1_158), .val (.int v1_159), .val (.int v1_160), .val (.ref b161), .val (.ref b162), .val (.ref b165), .val (.int (if (0 : Int32) = (0 : Int32) then (1 : Int32) else 0)), .unset, .unset, .unset] []))
    refine Go.step (fun _ k => XS.aload X_168.here hx rfl (hb hby at_110) rfl rfl k) ?_
    show Go p e below _ (T_168.setTop (mkF m 112 #[.val (.int p0), .val (.int p1), .val (.int p2), .val (.int p3), .val (.int (0 : Int32)), .val (.int v1_158), .val (.int v1_159), .val (.int v1_160), .val (.ref b161), .val (.ref b162), .val (.ref b165), .val (.int (if (0 : Int32) = (0 : Int32) then (1 : Int32) else 0)), .unset, .unset, .unset] [(.ref b165)]))
    obtain ⟨v_170, T_170, L_170, X_170, hQ_170, st_170⟩ := goV X_168 hx hZ_164 (y := ({ cls := "com/example/sigyn/sigyn/sip/SipScanner", name := "skipSpace", desc := "()I" } : Jvm.MethodName)) (z := ({ cls := "com/example/sigyn/sigyn/sip/SipScanner", name := "skipSpace", desc := "()I" } : Jvm.MethodName)) hown_164 (wd_53 hw) (wd_54 hw) (notFace_of_selects (args := #[]) (mvT hZ_164 (wd_56 hw))) (wd_56 hw) (wd_55 hw) (by decide) (backOf (W := 0) (rm_skip0 l Z a0 hw zc vfm (b165) (b162) T_166.heap n0 (Nat.le_trans Z0 KP_166.1) f169 u0_166 u1_166 (f167.mono (Nat.le_trans le_165 le_166)) g_b165 hSt O_166) hZ_164 (wd_57 hw) (wd_28 hw) (by decide) (by decide)) e_168 f169 (g := (mkF m 112 #[.val (.int p0), .val (.int p1), .val (.int p2), .val (.int p3), .val (.int (0 : Int32)), .val (.int v1_158), .val (.int v1_159), .val (.int v1_160), .val (.ref b161), .val (.ref b162), .val (.ref b165), .val (.int (if (0 : Int32) = (0 : Int32) then (1 : Int32) else 0)), .unset, .unset, .unset] [(.ref b165)])) rfl (by rw [hml]; rfl) (argsL := []) (rest := []) rfl (lenOf pd_1 rfl) rfl (by show 2 * 0 + _ ≤ _; exact Nat.le_of_eq rfl) (hb hby at_112) (by decide) (by decide)
    obtain ⟨v1_170, v2_170, rfl, Nq_170, K_170, u0_170, u1_170, u2_170⟩ := hQ_170
    have N_170 := Fr.app N_168 Nq_170
    have C_170 := CHr.keep K_170 (sfS (Safe.exa hZ_164.alike f169 (by decide) (by decide)) sf0) C_166.1
    have CR_170 := CHr.trans CR_166 C_170
    have le_170 : T_166.heap.size ≤ T_170.heap.size := K_170.1
    have KP_170 := KP_166.trans K_170 (allS (Or.inr sz_b165) all0)
    have O_170 := O_166.keep K_170 (allS g_b165 all0)
    have hv_170 := u2_170
    refine Go.step st_170 ?_
    show Go p e below _ (T_170.setTop (mkF m 115 #[.val (.int p0), .val (.int p1), .val (.int p2), .val (.int p3), .val (.int (0 : Int32)), .val (.int v1_158), .val (.int v1_159), .val (.int v1_160), .val (.ref b161), .val (.ref b162), .val (.ref b165), .val (.int (if (0 : Int32) = (0 : Int32) then (1 : Int32) else 0)), .unset, .unset, .unset] [(.int v2_170)]))
    have hv := hv_170
    show Go p e below _ (T_170.setTop (mkF m 115 #[.val (.int p0), .val (.int p1), .val (.int p2), .val (.int p3), .val (.int (0 : Int32)), .val (.int v1_158), .val (.int v1_159), .val (.int v1_160), .val (.ref b161), .val (.ref b162), .val (.ref b165), .val (.int (if (0 : Int32) = (0 : Int32) then (1 : Int32) else 0)), .unset, .unset, .unset] [(.int v2_170)]))
    refine Go.step (fun _ k => XS.pop X_170.here hx rfl (hb hby at_115) rfl rfl k) ?_
    show Go p e below _ (T_170.setTop (mkF m 116 #[.val (.int p0), .val (.int p1), .val (.int p2), .val (.int p3), .val (.int (0 : Int32)), .val (.int v1_158), .val (.int v1_159), .val (.int v1_160), .val (.ref b161), .val (.ref b162), .val (.ref b165), .val (.int (if (0 : Int32) = (0 : Int32) then (1 : Int32) else 0)), .unset, .unset, .unset] []))
    refine Go.step (fun _ k => XS.iload X_170.here hx rfl (hb hby at_116) rfl  k) ?_
    show Go p e below _ (T_170.setTop (mkF m 118 #[.val (.int p0), .val (.int p1), .val (.int p2), .val (.int p3), .val (.int (0 : Int32)), .val (.int v1_158), .val (.int v1_159), .val (.int v1_160), .val (.ref b161), .val (.ref b162), .val (.ref b165), .val (.int (if (0 : Int32) = (0 : Int32) then (1 : Int32) else 0)), .unset, .unset, .unset] [(.int (0 : Int32))]))
    refine Go.step (fun _ k => XS.iconst X_170.here hx rfl (hb hby at_118) k) ?_
    show Go p e below _ (T_170.setTop (mkF m 119 #[.val (.int p0), .val (.int p1), .val (.int p2), .val (.int p3), .val (.int (0 : Int32)), .val (.int v1_158), .val (.int v1_159), .val (.int v1_160), .val (.ref b161), .val (.ref b162), .val (.ref b165), .val (.int (if (0 : Int32) = (0 : Int32) then (1 : Int32) else 0)), .unset, .unset, .unset] [(.int (1 : Int32)), (.int (0 : Int32))]))
    refine Go.step (fun _ k => XS.icmpYes X_170.here hx rfl (pc0 := 119) (pc' := 130) rfl (hb hby at_119) rfl (tlt ((by decide) : (0 : Int32) < (1 : Int32))).1 (by decide) (by decide) k) ?_
    show Go p e below _ (T_170.setTop (mkF m 130 #[.val (.int p0), .val (.int p1), .val (.int p2), .val (.int p3), .val (.int (0 : Int32)), .val (.int v1_158), .val (.int v1_159), .val (.int v1_160), .val (.ref b161), .val (.ref b162), .val (.ref b165), .val (.int (if (0 : Int32) = (0 : Int32) then (1 : Int32) else 0)), .unset, .unset, .unset] []))
    refine Go.step (fun _ k => XS.iload X_170.here hx rfl (hb hby at_130) rfl  k) ?_
    show Go p e below _ (T_170.setTop (mkF m 132 #[.val (.int p0), .val (.int p1), .val (.int p2), .val (.int p3), .val (.int (0 : Int32)), .val (.int v1_158), .val (.int v1_159), .val (.int v1_160), .val (.ref b161), .val (.ref b162), .val (.ref b165), .val (.int (if (0 : Int32) = (0 : Int32) then (1 : Int32) else 0)), .unset, .unset, .unset] [(.int (0 : Int32))]))
    refine Go.step (fun _ k => XS.iconst X_170.here hx rfl (hb hby at_132) k) ?_
    show Go p e below _ (T_170.setTop (mkF m 133 #[.val (.int p0), .val (.int p1), .val (.int p2), .val (.int p3), .val (.int (0 : Int32)), .val (.int v1_158), .val (.int v1_159), .val (.int v1_160), .val (.ref b161), .val (.ref b162), .val (.ref b165), .val (.int (if (0 : Int32) = (0 : Int32) then (1 : Int32) else 0)), .unset, .unset, .unset] [(.int (2 : Int32)), (.int (0 : Int32))]))
    refine Go.step (fun _ k => XS.icmpYes X_170.here hx rfl (pc0 := 133) (pc' := 144) rfl (hb hby at_133) rfl (tlt ((by decide) : (0 : Int32) < (2 : Int32))).1 (by decide) (by decide) k) ?_
    show Go p e below _ (T_170.setTop (mkF m 144 #[.val (.int p0), .val (.int p1), .val (.int p2), .val (.int p3), .val (.int (0 : Int32)), .val (.int v1_158), .val (.int v1_159), .val (.int v1_160), .val (.ref b161), .val (.ref b162), .val (.ref b165), .val (.int (if (0 : Int32) = (0 : Int32) then (1 : Int32) else 0)), .unset, .unset, .unset] []))
    refine Go.step (fun _ k => XS.iload X_170.here hx rfl (hb hby at_144) rfl  k) ?_
    show Go p e below _ (T_170.setTop (mkF m 146 #[.val (.int p0), .val (.int p1), .val (.int p2), .val (.int p3), .val (.int (0 : Int32)), .val (.int v1_158), .val (.int v1_159), .val (.int v1_160), .val (.ref b161), .val (.ref b162), .val (.ref b165), .val (.int (if (0 : Int32) = (0 : Int32) then (1 : Int32) else 0)), .unset, .unset, .unset] [(.int (0 : Int32))]))
    refine Go.step (fun _ k => XS.iconst X_170.here hx rfl (hb hby at_146) k) ?_
    show Go p e below _ (T_170.setTop (mkF m 147 #[.val (.int p0), .val (.int p1), .val (.int p2), .val (.int p3), .val (.int (0 : Int32)), .val (.int v1_158), .val (.int v1_159), .val (.int v1_160), .val (.ref b161), .val (.ref b162), .val (.ref b165), .val (.int (if (0 : Int32) = (0 : Int32) then (1 : Int32) else 0)), .unset, .unset, .unset] [(.int (3 : Int32)), (.int (0 : Int32))]))
    refine Go.step (fun _ k => XS.icmpYes X_170.here hx rfl (pc0 := 147) (pc' := 158) rfl (hb hby at_147) rfl (tlt ((by decide) : (0 : Int32) < (3 : Int32))).1 (by decide) (by decide) k) ?_
    show Go p e below _ (T_170.setTop (mkF m 158 #[.val (.int p0), .val (.int p1), .val (.int p2), .val (.int p3), .val (.int (0 : Int32)), .val (.int v1_158), .val (.int v1_159), .val (.int v1_160), .val (.ref b161), .val (.ref b162), .val (.ref b165), .val (.int (if (0 : Int32) = (0 : Int32) then (1 : Int32) else 0)), .unset, .unset, .unset] []))
    refine Go.step (fun _ k => XS.iconst X_170.here hx rfl (hb hby at_158) k) ?_
    show Go p e below _ (T_170.setTop (mkF m 159 #[.val (.int p0), .val (.int p1), .val (.int p2), .val (.int p3), .val (.int (0 : Int32)), .val (.int v1_158), .val (.int v1_159), .val (.int v1_160), .val (.ref b161), .val (.ref b162), .val (.ref b165), .val (.int (if (0 : Int32) = (0 : Int32) then (1 : Int32) else 0)), .unset, .unset, .unset] [(.int (1 : Int32))]))
    refine Go.step (fun _ k => XS.goto X_170.here hx rfl (pc0 := 159) (pc' := 163) rfl (hb hby at_159) (by decide) (by decide) k) ?_
    show Go p e below _ (T_170.setTop (mkF m 163 #[.val (.int p0), .val (.int p1), .val (.int p2), .val (.int p3), .val (.int (0 : Int32)), .val (.int v1_158), .val (.int v1_159), .val (.int v1_160), .val (.ref b161), .val (.ref b162), .val (.ref b165), .val (.int (if (0 : Int32) = (0 : Int32) then (1 : Int32) else 0)), .unset, .unset, .unset] [(.int (1 : Int32))]))
    refine Go.step (fun _ k => XS.istore X_170.here hx rfl (hb hby at_163) rfl (l' := #[.val (.int p0), .val (.int p1), .val (.int p2), .val (.int p3), .val (.int (0 : Int32)), .val (.int v1_158), .val (.int v1_159), .val (.int v1_160), .val (.ref b161), .val (.ref b162), .val (.ref b165), .val (.int (if (0 : Int32) = (0 : Int32) then (1 : Int32) else 0)), .val (.int (1 : Int32)), .unset, .unset]) rfl k) ?_
    show Go p e below _ (T_170.setTop (mkF m 165 #[.val (.int p0), .val (.int p1), .val (.int p2), .val (.int p3), .val (.int (0 : Int32)), .val (.int v1_158), .val (.int v1_159), .val (.int v1_160), .val (.ref b161), .val (.ref b162), .val (.ref b165), .val (.int (if (0 : Int32) = (0 : Int32) then (1 : Int32) else 0)), .val (.int (1 : Int32)), .unset, .unset] []))
    refine Go.step (fun _ k => XS.aload X_170.here hx rfl (hb hby at_165) rfl rfl k) ?_
    show Go p e below _ (T_170.setTop (mkF m 167 #[.val (.int p0), .val (.int p1), .val (.int p2), .val (.int p3), .val (.int (0 : Int32)), .val (.int v1_158), .val (.int v1_159), .val (.int v1_160), .val (.ref b161), .val (.ref b162), .val (.ref b165), .val (.int (if (0 : Int32) = (0 : Int32) then (1 : Int32) else 0)), .val (.int (1 : Int32)), .unset, .unset] [(.ref b165)]))
    have f171 : Str Z T_164.heap.size T_170.heap b162 ([] : List Int32) := (f167.keep K_170 (allS (Nat.le_trans (Nat.le_refl _) ge_165) all0))
    have f173 : Exa Z T_170.heap b165 "com/example/sigyn/sigyn/sip/SipScanner" := (f169.keep K_170)
    obtain ⟨v_172, T_172, L_172, X_172, hQ_172, st_172⟩ := goV X_170 hx hZ_164 (y := ({ cls := "com/example/sigyn/sigyn/sip/SipScanner", name := "atEnd", desc := "()Z" } : Jvm.MethodName)) (z := ({ cls := "com/example/sigyn/sigyn/sip/SipScanner", name := "atEnd", desc := "()Z" } : Jvm.MethodName)) hown_164 (wd_35 hw) (wd_36 hw) (notFace_of_selects (args := #[]) (mvT hZ_164 (wd_38 hw))) (wd_38 hw) (wd_37 hw) (by decide) (backOf (W := 0) (rm_atEnd l Z a0 hw zc vfm (b165) (v1_170) (b162) (([] : List Int32)) ((0 : Int32)) T_170.heap n0 (Nat.le_trans Z0 KP_170.1) u0_170 u1_170 (f171.mono (Nat.le_trans le_165 (Nat.le_trans le_166 le_170))) rfl hSt O_170) hZ_164 (wd_39 hw) (wd_28 hw) (by decide) (by decide)) rfl f173 (g := (mkF m 167 #[.val (.int p0), .val (.int p1), .val (.int p2), .val (.int p3), .val (.int (0 : Int32)), .val (.int v1_158), .val (.int v1_159), .val (.int v1_160), .val (.ref b161), .val (.ref b162), .val (.ref b165), .val (.int (if (0 : Int32) = (0 : Int32) then (1 : Int32) else 0)), .val (.int (1 : Int32)), .unset, .unset] [(.ref b165)])) rfl (by rw [hml]; rfl) (argsL := []) (rest := []) rfl (lenOf pd_6 rfl) rfl (by show 2 * 0 + _ ≤ _; exact Nat.le_of_eq rfl) (hb hby at_167) (by decide) (by decide)
    obtain ⟨rfl, Nq_172, e_172⟩ := hQ_172
    have N_172 := Fr.app N_170 Nq_172
    refine Go.step st_172 ?_
    show Go p e below _ (T_172.setTop (mkF m 170 #[.val (.int p0), .val (.int p1), .val (.int p2), .val (.int p3), .val (.int (0 : Int32)), .val (.int v1_158), .val (.int v1_159), .val (.int v1_160), .val (.ref b161), .val (.ref b162), .val (.ref b165), .val (.int (if (0 : Int32) = (0 : Int32) then (1 : Int32) else 0)), .val (.int (1 : Int32)), .unset, .unset] [(.int (if v1_170 = (0 : Int32) then (1 : Int32) else 0))]))
    refine Go.step (fun _ k => XS.istore X_172.here hx rfl (hb hby at_170) rfl (l' := #[.val (.int p0), .val (.int p1), .val (.int p2), .val (.int p3), .val (.int (0 : Int32)), .val (.int v1_158), .val (.int v1_159), .val (.int v1_160), .val (.ref b161), .val (.ref b162), .val (.ref b165), .val (.int (if (0 : Int32) = (0 : Int32) then (1 : Int32) else 0)), .val (.int (1 : Int32)), .val (.int (if v1_170 = (0 : Int32) then (1 : Int32) else 0)), .unset]) rfl k) ?_
    show Go p e below _ (T_172.setTop (mkF m 172 #[.val (.int p0), .val (.int p1), .val (.int p2), .val (.int p3), .val (.int (0 : Int32)), .val (.int v1_158), .val (.int v1_159), .val (.int v1_160), .val (.ref b161), .val (.ref b162), .val (.ref b165), .val (.int (if (0 : Int32) = (0 : Int32) then (1 : Int32) else 0)), .val (.int (1 : Int32)), .val (.int (if v1_170 = (0 : Int32) then (1 : Int32) else 0)), .unset] []))
    refine Go.step (fun _ k => XS.aload X_172.here hx rfl (hb hby at_172) rfl rfl k) ?_
    show Go p e below _ (T_172.setTop (mkF m 174 #[.val (.int p0), .val (.int p1), .val (.int p2), .val (.int p3), .val (.int (0 : Int32)), .val (.int v1_158), .val (.int v1_159), .val (.int v1_160), .val (.ref b161), .val (.ref b162), .val (.ref b165), .val (.int (if (0 : Int32) = (0 : Int32) then (1 : Int32) else 0)), .val (.int (1 : Int32)), .val (.int (if v1_170 = (0 : Int32) then (1 : Int32) else 0)), .unset] [(.ref b165)]))
    obtain ⟨v_174, T_174, L_174, X_174, hQ_174, st_174⟩ := goV X_172 hx hZ_164 (y := ({ cls := "com/example/sigyn/sigyn/sip/SipScanner", name := "atEnd", desc := "()Z" } : Jvm.MethodName)) (z := ({ cls := "com/example/sigyn/sigyn/sip/SipScanner", name := "atEnd", desc := "()Z" } : Jvm.MethodName)) hown_164 (wd_35 hw) (wd_36 hw) (notFace_of_selects (args := #[]) (mvT hZ_164 (wd_38 hw))) (wd_38 hw) (wd_37 hw) (by decide) (backOf (W := 0) (rm_atEnd l Z a0 hw zc vfm (b165) (v1_170) (b162) (([] : List Int32)) ((0 : Int32)) T_170.heap n0 (Nat.le_trans Z0 KP_170.1) u0_170 u1_170 (f171.mono (Nat.le_trans le_165 (Nat.le_trans le_166 le_170))) rfl hSt O_170) hZ_164 (wd_39 hw) (wd_28 hw) (by decide) (by decide)) e_172 f173 (g := (mkF m 174 #[.val (.int p0), .val (.int p1), .val (.int p2), .val (.int p3), .val (.int (0 : Int32)), .val (.int v1_158), .val (.int v1_159), .val (.int v1_160), .val (.ref b161), .val (.ref b162), .val (.ref b165), .val (.int (if (0 : Int32) = (0 : Int32) then (1 : Int32) else 0)), .val (.int (1 : Int32)), .val (.int (if v1_170 = (0 : Int32) then (1 : Int32) else 0)), .unset] [(.ref b165)])) rfl (by rw [hml]; rfl) (argsL := []) (rest := []) rfl (lenOf pd_6 rfl) rfl (by show 2 * 0 + _ ≤ _; exact Nat.le_of_eq rfl) (hb hby at_174) (by decide) (by decide)
    obtain ⟨rfl, Nq_174, e_174⟩ := hQ_174
    have N_174 := Fr.app N_172 Nq_174
    refine Go.step st_174 ?_
    show Go p e below _ (T_174.setTop (mkF m 177 #[.val (.int p0), .val (.int p1), .val (.int p2), .val (.int p3), .val (.int (0 : Int32)), .val (.int v1_158), .val (.int v1_159), .val (.int v1_160), .val (.ref b161), .val (.ref b162), .val (.ref b165), .val (.int (if (0 : Int32) = (0 : Int32) then (1 : Int32) else 0)), .val (.int (1 : Int32)), .val (.int (if v1_170 = (0 : Int32) then (1 : Int32) else 0)), .unset] [(.int (if v1_170 = (0 : Int32) then (1 : Int32) else 0))]))
    refine Go.step (fun _ k => XS.istore X_174.here hx rfl (hb hby at_177) rfl (l' := #[.val (.int p0), .val (.int p1), .val (.int p2), .val (.int p3), .val (.int (0 : Int32)), .val (.int v1_158), .val (.int v1_159), .val (.int v1_160), .val (.ref b161), .val (.ref b162), .val (.ref b165), .val (.int (if (0 : Int32) = (0 : Int32) then (1 : Int32) else 0)), .val (.int (1 : Int32)), .val (.int (if v1_170 = (0 : Int32) then (1 : Int32) else 0)), .val (.int (if v1_170 = (0 : Int32) then (1 : Int32) else 0))]) rfl k) ?_
    show Go p e below _ (T_174.setTop (mkF m 179 #[.val (.int p0), .val (.int p1), .val (.int p2), .val (.int p3), .val (.int (0 : Int32)), .val (.int v1_158), .val (.int v1_159), .val (.int v1_160), .val (.ref b161), .val (.ref b162), .val (.ref b165), .val (.int (if (0 : Int32) = (0 : Int32) then (1 : Int32) else 0)), .val (.int (1 : Int32)), .val (.int (if v1_170 = (0 : Int32) then (1 : Int32) else 0)), .val (.int (if v1_170 = (0 : Int32) then (1 : Int32) else 0))] []))
    refine Go.step (fun _ k => XS.iload X_174.here hx rfl (hb hby at_179) rfl  k) ?_
    show Go p e below _ (T_174.setTop (mkF m 181 #[.val (.int p0), .val (.int p1), .val (.int p2), .val (.int p3), .val (.int (0 : Int32)), .val (.int v1_158), .val (.int v1_159), .val (.int v1_160), .val (.ref b161), .val (.ref b162), .val (.ref b165), .val (.int (if (0 : Int32) = (0 : Int32) then (1 : Int32) else 0)), .val (.int (1 : Int32)), .val (.int (if v1_170 = (0 : Int32) then (1 : Int32) else 0)), .val (.int (if v1_170 = (0 : Int32) then (1 : Int32) else 0))] [(.int (if v1_170 = (0 : Int32) then (1 : Int32) else 0))]))
    refine Go.step (fun _ k => XS.iload X_174.here hx rfl (hb hby at_181) rfl  k) ?_
    show Go p e below _ (T_174.setTop (mkF m 183 #[.val (.int p0), .val (.int p1), .val (.int p2), .val (.int p3), .val (.int (0 : Int32)), .val (.int v1_158), .val (.int v1_159), .val (.int v1_160), .val (.ref b161), .val (.ref b162), .val (.ref b165), .val (.int (if (0 : Int32) = (0 : Int32) then (1 : Int32) else 0)), .val (.int (1 : Int32)), .val (.int (if v1_170 = (0 : Int32) then (1 : Int32) else 0)), .val (.int (if v1_170 = (0 : Int32) then (1 : Int32) else 0))] [(.int (1 : Int32)), (.int (if v1_170 = (0 : Int32) then (1 : Int32) else 0))]))
    refine Go.step (fun _ k => XS.icmpNo X_174.here hx rfl (hb hby at_183) rfl (teq ((if_pos (hv.mpr trivial)) : (if v1_170 = (0 : Int32) then (1 : Int32) else 0) = (1 : Int32))).2 k) ?_
    show Go p e below _ (T_174.setTop (mkF m 186 #[.val (.int p0), .val (.int p1), .val (.int p2), .val (.int p3), .val (.int (0 : Int32)), .val (.int v1_158), .val (.int v1_159), .val (.int v1_160), .val (.ref b161), .val (.ref b162), .val (.ref b165), .val (.int (if (0 : Int32) = (0 : Int32) then (1 : Int32) else 0)), .val (.int (1 : Int32)), .val (.int (if v1_170 = (0 : Int32) then (1 : Int32) else 0)), .val (.int (if v1_170 = (0 : Int32) then (1 : Int32) else 0))] []))
    refine Go.step (fun _ k => XS.iload X_174.here hx rfl (hb hby at_186) rfl  k) ?_
    show Go p e below _ (T_174.setTop (mkF m 188 #[.val (.int p0), .val (.int p1), .val (.int p2), .val (.int p3), .val (.int (0 : Int32)), .val (.int v1_158), .val (.int v1_159), .val (.int v1_160), .val (.ref b161), .val (.ref b162), .val (.ref b165), .val (.int (if (0 : Int32) = (0 : Int32) then (1 : Int32) else 0)), .val (.int (1 : Int32)), .val (.int (if v1_170 = (0 : Int32) then (1 : Int32) else 0)), .val (.int (if v1_170 = (0 : Int32) then (1 : Int32) else 0))] [(.int (if v1_170 = (0 : Int32) then (1 : Int32) else 0))]))
    refine Go.step (fun _ k => XS.iload X_174.here hx rfl (hb hby at_188) rfl  k) ?_
    show Go p e below _ (T_174.setTop (mkF m 190 #[.val (.int p0), .val (.int p1), .val (.int p2), .val (.int p3), .val (.int (0 : Int32)), .val (.int v1_158), .val (.int v1_159), .val (.int v1_160), .val (.ref b161), .val (.ref b162), .val (.ref b165), .val (.int (if (0 : Int32) = (0 : Int32) then (1 : Int32) else 0)), .val (.int (1 : Int32)), .val (.int (if v1_170 = (0 : Int32) then (1 : Int32) else 0)), .val (.int (if v1_170 = (0 : Int32) then (1 : Int32) else 0))] [(.int (if v1_170 = (0 : Int32) then (1 : Int32) else 0)), (.int (if v1_170 = (0 : Int32) then (1 : Int32) else 0))]))
    refine Go.step (fun _ k => XS.icmpNo X_174.here hx rfl (hb hby at_190) rfl (teq (rfl : (if v1_170 = (0 : Int32) then (1 : Int32) else 0) = (if v1_170 = (0 : Int32) then (1 : Int32) else 0))).2 k) ?_
    show Go p e below _ (T_174.setTop (mkF m 193 #[.val (.int p0), .val (.int p1), .val (.int p2), .val (.int p3), .val (.int (0 : Int32)), .val (.int v1_158), .val (.int v1_159), .val (.int v1_160), .val (.ref b161), .val (.ref b162), .val (.ref b165), .val (.int (if (0 : Int32) = (0 : Int32) then (1 : Int32) else 0)), .val (.int (1 : Int32)), .val (.int (if v1_170 = (0 : Int32) then (1 : Int32) else 0)), .val (.int (if v1_170 = (0 : Int32) then (1 : Int32) else 0))] []))
    refine Go.step (fun _ k => XS.iconst X_174.here hx rfl (hb hby at_193) k) ?_
    show Go p e below _ (T_174.setTop (mkF m 194 #[.val (.int p0), .val (.int p1), .val (.int p2), .val (.int p3), .val (.int (0 : Int32)), .val (.int v1_158), .val (.int v1_159), .val (.int v1_160), .val (.ref b161), .val (.ref b162), .val (.ref b165), .val (.int (if (0 : Int32) = (0 : Int32) then (1 : Int32) else 0)), .val (.int (1 : Int32)), .val (.int (if v1_170 = (0 : Int32) then (1 : Int32) else 0)), .val (.int (if v1_170 = (0 : Int32) then (1 : Int32) else 0))] [(.int (1 : Int32))]))
    refine Go.step (fun _ k => XS.goto X_174.here hx rfl (pc0 := 194) (pc' := 198) rfl (hb hby at_194) (by decide) (by decide) k) ?_
    show Go p e below _ (T_174.setTop (mkF m 198 #[.val (.int p0), .val (.int p1), .val (.int p2), .val (.int p3), .val (.int (0 : Int32)), .val (.int v1_158), .val (.int v1_159), .val (.int v1_160), .val (.ref b161), .val (.ref b162), .val (.ref b165), .val (.int (if (0 : Int32) = (0 : Int32) then (1 : Int32) else 0)), .val (.int (1 : Int32)), .val (.int (if v1_170 = (0 : Int32) then (1 : Int32) else 0)), .val (.int (if v1_170 = (0 : Int32) then (1 : Int32) else 0))] [(.int (1 : Int32))]))
    exact Go.retVW X_174 e_174 hS_164 (Nat.le_trans (Nat.le_refl _) (Nat.le_trans le_165 (Nat.le_trans le_166 le_170))) hZ_164 hEL hh0 CR_170 hx hlk hret rfl (Or.inl ⟨rfl, Or.inr (Or.inl rfl), _, rfl⟩) (hb hby at_198) (by decide) (by decide) (by rw [e_174]; exact ⟨rfl, N_174⟩)
  · skip
    show Go p e below _ (s₁.setTop (mkF m 5 #[.val (.int p0), .val (.int p1), .val (.int p2), .val (.int p3), .val (.int (1 : Int32)), .unset, .unset, .unset, .unset, .unset, .unset, .unset, .unset, .unset, .unset] []))
    refine Go.step (fun _ k => XS.iloadN X0.here hx rfl (hb hby at_5) rfl  k) ?_
    show Go p e below _ (s₁.setTop (mkF m 6 #[.val (.int p0), .val (.int p1), .val (.int p2), .val (.int p3), .val (.int (1 : Int32)), .unset, .unset, .unset, .unset, .unset, .unset, .unset, .unset, .unset, .unset] [(.int p1)]))
    obtain ⟨v_175, T_175, L_175, X_175, hQ_175, st_175⟩ := goS X0 hx hZ (y := ({ cls := "com/example/sigyn/sigyn/sip/SipScannerAtEndPinLaw", name := "draw", desc := "(I)C" } : Jvm.MethodName)) hown (wd_0 hw) (wd_1 hw) (wd_2 hw) (wd_3 hw) (by decide) (backOf (W := 0) (rm_draw l Z a0 hw zc vfm (p1) h0 n0 (Nat.le_trans Z0 KP0.1) hSt hO) hZ (wd_3 hw) (wd_2 hw) (by decide) (by decide)) e0 (g := (mkF m 6 #[.val (.int p0), .val (.int p1), .val (.int p2), .val (.int p3), .val (.int (1 : Int32)), .unset, .unset, .unset, .unset, .unset, .unset, .unset, .unset, .unset, .unset] [(.int p1)])) rfl (by rw [hml]; rfl) (argsL := [(.int p1)]) (rest := []) rfl (lenOf pd_2 rfl) rfl (by show 2 * 0 + _ ≤ _; exact Nat.le_of_eq rfl) (hb hby at_6) (by decide) (by decide)
    obtain ⟨v1_175, rfl, Nq_175, e_175, u0_175⟩ := hQ_175
    have N_175 := Fr.app N0 Nq_175
    have hlat_175 := u0_175
    refine Go.step st_175 ?_
    show Go p e below _ (T_175.setTop (mkF m 9 #[.val (.int p0), .val (.int p1), .val (.int p2), .val (.int p3), .val (.int (1 : Int32)), .unset, .unset, .unset, .unset, .unset, .unset, .unset, .unset, .unset, .unset] [(.int v1_175)]))
    refine Go.step (fun _ k => XS.istore X_175.here hx rfl (hb hby at_9) rfl (l' := #[.val (.int p0), .val (.int p1), .val (.int p2), .val (.int p3), .val (.int (1 : Int32)), .val (.int v1_175), .unset, .unset, .unset, .unset, .unset, .unset, .unset, .unset, .unset]) rfl k) ?_
    show Go p e below _ (T_175.setTop (mkF m 11 #[.val (.int p0), .val (.int p1), .val (.int p2), .val (.int p3), .val (.int (1 : Int32)), .val (.int v1_175), .unset, .unset, .unset, .unset, .unset, .unset, .unset, .unset, .unset] []))
    refine Go.step (fun _ k => XS.iloadN X_175.here hx rfl (hb hby at_11) rfl  k) ?_
    show Go p e below _ (T_175.setTop (mkF m 12 #[.val (.int p0), .val (.int p1), .val (.int p2), .val (.int p3), .val (.int (1 : Int32)), .val (.int v1_175), .unset, .unset, .unset, .unset, .unset, .unset, .unset, .unset, .unset] [(.int p2)]))
    obtain ⟨v_176, T_176, L_176, X_176, hQ_176, st_176⟩ := goS X_175 hx hZ (y := ({ cls := "com/example/sigyn/sigyn/sip/SipScannerAtEndPinLaw", name := "draw", desc := "(I)C" } : Jvm.MethodName)) hown (wd_0 hw) (wd_1 hw) (wd_2 hw) (wd_3 hw) (by decide) (backOf (W := 0) (rm_draw l Z a0 hw zc vfm (p2) h0 n0 (Nat.le_trans Z0 KP0.1) hSt hO) hZ (wd_3 hw) (wd_2 hw) (by decide) (by decide)) e_175 (g := (mkF m 12 #[.val (.int p0), .val (.int p1), .val (.int p2), .val (.int p3), .val (.int (1 : Int32)), .val (.int v1_175), .unset, .unset, .unset, .unset, .unset, .unset, .unset, .unset, .unset] [(.int p2)])) rfl (by rw [hml]; rfl) (argsL := [(.int p2)]) (rest := []) rfl (lenOf pd_2 rfl) rfl (by show 2 * 0 + _ ≤ _; exact Nat.le_of_eq rfl) (hb hby at_12) (by decide) (by decide)
    obtain ⟨v1_176, rfl, Nq_176, e_176, u0_176⟩ := hQ_176
    have N_176 := Fr.app N_175 Nq_176
    have hlat_176 := u0_176
    refine Go.step st_176 ?_
    show Go p e below _ (T_176.setTop (mkF m 15 #[.val (.int p0), .val (.int p1), .val (.int p2), .val (.int p3), .val (.int (1 : Int32)), .val (.int v1_175), .unset, .unset, .unset, .unset, .unset, .unset, .unset, .unset, .unset] [(.int v1_176)]))
    refine Go.step (fun _ k => XS.istore X_176.here hx rfl (hb hby at_15) rfl (l' := #[.val (.int p0), .val (.int p1), .val (.int p2), .val (.int p3), .val (.int (1 : Int32)), .val (.int v1_175), .val (.int v1_176), .unset, .unset, .unset, .unset, .unset, .unset, .unset, .unset]) rfl k) ?_
    show Go p e below _ (T_176.setTop (mkF m 17 #[.val (.int p0), .val (.int p1), .val (.int p2), .val (.int p3), .val (.int (1 : Int32)), .val (.int v1_175), .val (.int v1_176), .unset, .unset, .unset, .unset, .unset, .unset, .unset, .unset] []))
    refine Go.step (fun _ k => XS.iloadN X_176.here hx rfl (hb hby at_17) rfl  k) ?_
    show Go p e below _ (T_176.setTop (mkF m 18 #[.val (.int p0), .val (.int p1), .val (.int p2), .val (.int p3), .val (.int (1 : Int32)), .val (.int v1_175), .val (.int v1_176), .unset, .unset, .unset, .unset, .unset, .unset, .unset, .unset] [(.int p3)]))
    obtain ⟨v_177, T_177, L_177, X_177, hQ_177, st_177⟩ := goS X_176 hx hZ (y := ({ cls := "com/example/sigyn/sigyn/sip/SipScannerAtEndPinLaw", name := "draw", desc := "(I)C" } : Jvm.MethodName)) hown (wd_0 hw) (wd_1 hw) (wd_2 hw) (wd_3 hw) (by decide) (backOf (W := 0) (rm_draw l Z a0 hw zc vfm (p3) h0 n0 (Nat.le_trans Z0 KP0.1) hSt hO) hZ (wd_3 hw) (wd_2 hw) (by decide) (by decide)) e_176 (g := (mkF m 18 #[.val (.int p0), .val (.int p1), .val (.int p2), .val (.int p3), .val (.int (1 : Int32)), .val (.int v1_175), .val (.int v1_176), .unset, .unset, .unset, .unset, .unset, .unset, .unset, .unset] [(.int p3)])) rfl (by rw [hml]; rfl) (argsL := [(.int p3)]) (rest := []) rfl (lenOf pd_2 rfl) rfl (by show 2 * 0 + _ ≤ _; exact Nat.le_of_eq rfl) (hb hby at_18) (by decide) (by decide)
    obtain ⟨v1_177, rfl, Nq_177, e_177, u0_177⟩ := hQ_177
    have N_177 := Fr.app N_176 Nq_177
    have hlat_177 := u0_177
    refine Go.step st_177 ?_
    show Go p e below _ (T_177.setTop (mkF m 21 #[.val (.int p0), .val (.int p1), .val (.int p2), .val (.int p3), .val (.int (1 : Int32)), .val (.int v1_175), .val (.int v1_176), .unset, .unset, .unset, .unset, .unset, .unset, .unset, .unset] [(.int v1_177)]))
    refine Go.step (fun _ k => XS.istore X_177.here hx rfl (hb hby at_21) rfl (l' := #[.val (.int p0), .val (.int p1), .val (.int p2), .val (.int p3), .val (.int (1 : Int32)), .val (.int v1_175), .val (.int v1_176), .val (.int v1_177), .unset, .unset, .unset, .unset, .unset, .unset, .unset]) rfl k) ?_
    show Go p e below _ (T_177.setTop (mkF m 23 #[.val (.int p0), .val (.int p1), .val (.int p2), .val (.int p3), .val (.int (1 : Int32)), .val (.int v1_175), .val (.int v1_176), .val (.int v1_177), .unset, .unset, .unset, .unset, .unset, .unset, .unset] []))
    refine Go.step (fun _ k => XS.iload X_177.here hx rfl (hb hby at_23) rfl  k) ?_
    show Go p e below _ (T_177.setTop (mkF m 25 #[.val (.int p0), .val (.int p1), .val (.int p2), .val (.int p3), .val (.int (1 : Int32)), .val (.int v1_175), .val (.int v1_176), .val (.int v1_177), .unset, .unset, .unset, .unset, .unset, .unset, .unset] [(.int (1 : Int32))]))
    obtain ⟨T_178, h_178, k_178, X_178, e_178, E_178, A_178, st_178⟩ := newP X_177 hx hZ (aty := .char) (wd_4 hw) e_177 (g := (mkF m 25 #[.val (.int p0), .val (.int p1), .val (.int p2), .val (.int p3), .val (.int (1 : Int32)), .val (.int v1_175), .val (.int v1_176), .val (.int v1_177), .unset, .unset, .unset, .unset, .unset, .unset, .unset] [(.int (1 : Int32))])) rfl (hb hby at_25) rfl (by decide) (cap := 1) (by decide) (by decide) (by decide) (by decide)
    obtain ⟨b178, q_178⟩ : ∃ z, z = h0.size := ⟨_, rfl⟩
    rw [← q_178] at A_178 st_178
    refine Go.step st_178 ?_
    have C_178 := CHr.ext E_178 CV0
    have CR_178 := CHr.trans (CHr.refl CV0) C_178
    have le_178 : h0.size ≤ h_178.size := E_178.1
    have KP_178 := KP0.ext E_178
    have O_178 := hO.ext E_178
    have ge_178 : h0.size ≤ b178 := Nat.le_of_eq q_178.symm
    have sz_b178 : h0.size ≤ b178 := Nat.le_trans (Nat.le_refl _) ge_178
    have g_b178 : n0 ≤ b178 := Nat.le_trans Z0 sz_b178
    have V_178 : Arv Z h_178 b178 k_178 .char (1 : Int32) [(.int (0 : Int32))] (.int (0 : Int32)) := (Arv.new A_178 (by decide)).pad (pad_rep [] (.int (0 : Int32)) 1)
    have Sf_b178 := Safe.ext E_178 CV0 (Safe.new ge_178)
    show Go p e below _ (T_178.setTop (mkF m 27 #[.val (.int p0), .val (.int p1), .val (.int p2), .val (.int p3), .val (.int (1 : Int32)), .val (.int v1_175), .val (.int v1_176), .val (.int v1_177), .unset, .unset, .unset, .unset, .unset, .unset, .unset] [(.ref b178)]))
    refine Go.step (fun _ k => XS.astore X_178.here hx rfl (hb hby at_27) rfl rfl (l' := #[.val (.int p0), .val (.int p1), .val (.int p2), .val (.int p3), .val (.int (1 : Int32)), .val (.int v1_175), .val (.int v1_176), .val (.int v1_177), .val (.ref b178), .unset, .unset, .unset, .unset, .unset, .unset]) rfl k) ?_
    show Go p e below _ (T_178.setTop (mkF m 29 #[.val (.int p0), .val (.int p1), .val (.int p2), .val (.int p3), .val (.int (1 : Int32)), .val (.int v1_175), .val (.int v1_176), .val (.int v1_177), .val (.ref b178), .unset, .unset, .unset, .unset, .unset, .unset] []))
    refine Go.step (fun _ k => XS.iload X_178.here hx rfl (hb hby at_29) rfl  k) ?_
    show Go p e below _ (T_178.setTop (mkF m 31 #[.val (.int p0), .val (.int p1), .val (.int p2), .val (.int p3), .val (.int (1 : Int32)), .val (.int v1_175), .val (.int v1_176), .val (.int v1_177), .val (.ref b178), .unset, .unset, .unset, .unset, .unset, .unset] [(.int (1 : Int32))]))
    refine Go.step (fun _ k => XS.ifNo X_178.here hx rfl (hb hby at_31) rfl ((if0 _ _).trans (tlt ((by decide) : (0 : Int32) < (1 : Int32))).2.2.2) k) ?_
    show Go p e below _ (T_178.setTop (mkF m 34 #[.val (.int p0), .val (.int p1), .val (.int p2), .val (.int p3), .val (.int (1 : Int32)), .val (.int v1_175), .val (.int v1_176), .val (.int v1_177), .val (.ref b178), .unset, .unset, .unset, .unset, .unset, .unset] []))
    refine Go.step (fun _ k => XS.aload X_178.here hx rfl (hb hby at_34) rfl rfl k) ?_
    show Go p e below _ (T_178.setTop (mkF m 36 #[.val (.int p0), .val (.int p1), .val (.int p2), .val (.int p3), .val (.int (1 : Int32)), .val (.int v1_175), .val (.int v1_176), .val (.int v1_177), .val (.ref b178), .unset, .unset, .unset, .unset, .unset, .unset] [(.ref b178)]))
    refine Go.step (fun _ k => XS.iconst X_178.here hx rfl (hb hby at_36) k) ?_
    show Go p e below _ (T_178.setTop (mkF m 37 #[.val (.int p0), .val (.int p1), .val (.int p2), .val (.int p3), .val (.int (1 : Int32)), .val (.int v1_175), .val (.int v1_176), .val (.int v1_177), .val (.ref b178), .unset, .unset, .unset, .unset, .unset, .unset] [(.int (0 : Int32)), (.ref b178)]))
    refine Go.step (fun _ k => XS.iload X_178.here hx rfl (hb hby at_37) rfl  k) ?_
    show Go p e below _ (T_178.setTop (mkF m 39 #[.val (.int p0), .val (.int p1), .val (.int p2), .val (.int p3), .val (.int (1 : Int32)), .val (.int v1_175), .val (.int v1_176), .val (.int v1_177), .val (.ref b178), .unset, .unset, .unset, .unset, .unset, .unset] [(.int v1_175), (.int (0 : Int32)), (.ref b178)]))
    have cp180 := V_178
    obtain ⟨cl_179, Ar_179, ck_179, Sz_179, Ng_179, Hs_179, Gs_179⟩ := cp180
    have hin_179 : ¬ ((0 : Int32) < 0 ∨ cl_179.slots.size ≤ ((0 : Int32)).toNatClampNeg) := inb_of Sz_179 ⟨by decide, by decide⟩
    obtain ⟨T_179, h_179, X_179, e_179, W_179, st_179⟩ := stC X_178 hx hZ e_178 Ar_179 (j := (0 : Int32)) hin_179 (g := (mkF m 39 #[.val (.int p0), .val (.int p1), .val (.int p2), .val (.int p3), .val (.int (1 : Int32)), .val (.int v1_175), .val (.int v1_176), .val (.int v1_177), .val (.ref b178), .unset, .unset, .unset, .unset, .unset, .unset] [(.int v1_175), (.int (0 : Int32)), (.ref b178)])) rfl rfl (hb hby at_39)
    refine Go.step st_179 ?_
    have N_179 := Fr.snoc X_179 N_177 g_b178
    have C_179 := CHr.wr W_179 (Safe.arv hZ.alike V_178 (by decide)) C_178.1
    have CR_179 := CHr.trans CR_178 C_179
    have le_179 : h_178.size ≤ h_179.size := Nat.le_of_eq W_179.size.symm
    have KP_179 := KP_178.wr W_179 (Or.inr sz_b178)
    have O_179 := O_178.wr W_179 g_b178
    have V_179 : Arv Z h_179 b178 k_178 .char (1 : Int32) [(.int v1_175)] (.int (0 : Int32)) := by
      have q := Arv.set Ar_179 ck_179 Sz_179 Ng_179 Hs_179 Gs_179 (fits_nar_char _) W_179 0 rfl (Nat.le_of_ble_eq_true rfl)
      rw [nar_lat hlat_175] at q; exact q
    show Go p e below _ (T_179.setTop (mkF m 40 #[.val (.int p0), .val (.int p1), .val (.int p2), .val (.int p3), .val (.int (1 : Int32)), .val (.int v1_175), .val (.int v1_176), .val (.int v1_177), .val (.ref b178), .unset, .unset, .unset, .unset, .unset, .unset] []))
    refine Go.step (fun _ k => XS.iload X_179.here hx rfl (hb hby at_40) rfl  k) ?_
    show Go p e below _ (T_179.setTop (mkF m 42 #[.val (.int p0), .val (.int p1), .val (.int p2), .val (.int p3), .val (.int (1 : Int32)), .val (.int v1_175), .val (.int v1_176), .val (.int v1_177), .val (.ref b178), .unset, .unset, .unset, .unset, .unset, .unset] [(.int (1 : Int32))]))
    refine Go.step (fun _ k => XS.iconst X_179.here hx rfl (hb hby at_42) k) ?_
    show Go p e below _ (T_179.setTop (mkF m 43 #[.val (.int p0), .val (.int p1), .val (.int p2), .val (.int p3), .val (.int (1 : Int32)), .val (.int v1_175), .val (.int v1_176), .val (.int v1_177), .val (.ref b178), .unset, .unset, .unset, .unset, .unset, .unset] [(.int (1 : Int32)), (.int (1 : Int32))]))
    refine Go.step (fun _ k => XS.icmpYes X_179.here hx rfl (pc0 := 43) (pc' := 52) rfl (hb hby at_43) rfl (flt ((by decide) : ¬ ((1 : Int32) < (1 : Int32)))).2.2.2 (by decide) (by decide) k) ?_
    show Go p e below _ (T_179.setTop (mkF m 52 #[.val (.int p0), .val (.int p1), .val (.int p2), .val (.int p3), .val (.int (1 : Int32)), .val (.int v1_175), .val (.int v1_176), .val (.int v1_177), .val (.ref b178), .unset, .unset, .unset, .unset, .unset, .unset] []))
    refine Go.step (fun _ k => XS.iload X_179.here hx rfl (hb hby at_52) rfl  k) ?_
    show Go p e below _ (T_179.setTop (mkF m 54 #[.val (.int p0), .val (.int p1), .val (.int p2), .val (.int p3), .val (.int (1 : Int32)), .val (.int v1_175), .val (.int v1_176), .val (.int v1_177), .val (.ref b178), .unset, .unset, .unset, .unset, .unset, .unset] [(.int (1 : Int32))]))
    refine Go.step (fun _ k => XS.iconst X_179.here hx rfl (hb hby at_54) k) ?_
    show Go p e below _ (T_179.setTop (mkF m 55 #[.val (.int p0), .val (.int p1), .val (.int p2), .val (.int p3), .val (.int (1 : Int32)), .val (.int v1_175), .val (.int v1_176), .val (.int v1_177), .val (.ref b178), .unset, .unset, .unset, .unset, .unset, .unset] [(.int (2 : Int32)), (.int (1 : Int32))]))
    refine Go.step (fun _ k => XS.icmpYes X_179.here hx rfl (pc0 := 55) (pc' := 64) rfl (hb hby at_55) rfl (flt ((by decide) : ¬ ((2 : Int32) < (1 : Int32)))).2.2.2 (by decide) (by decide) k) ?_
    show Go p e below _ (T_179.setTop (mkF m 64 #[.val (.int p0), .val (.int p1), .val (.int p2), .val (.int p3), .val (.int (1 : Int32)), .val (.int v1_175), .val (.int v1_176), .val (.int v1_177), .val (.ref b178), .unset, .unset, .unset, .unset, .unset, .unset] []))
    obtain ⟨T_181, h_181, X_181, e_181, E_181, A_181, D_181, -, st_181⟩ := newO X_179 hx hZ hown (wd_5 hw) (wd_6 hw) (wd_7 hw) e_179 (g := (mkF m 64 #[.val (.int p0), .val (.int p1), .val (.int p2), .val (.int p3), .val (.int (1 : Int32)), .val (.int v1_175), .val (.int v1_176), .val (.int v1_177), .val (.ref b178), .unset, .unset, .unset, .unset, .unset, .unset] [])) rfl (hb hby at_64) (by decide) (by decide)
    obtain ⟨b181, q_181⟩ : ∃ z, z = h_179.size := ⟨_, rfl⟩
    rw [← q_181] at A_181 D_181 st_181
    refine Go.step st_181 ?_
    have C_181 := CHr.ext E_181 C_179.1
    have CR_181 := CHr.trans CR_179 C_181
    have le_181 : h_179.size ≤ h_181.size := E_181.1
    have KP_181 := KP_179.ext E_181
    have O_181 := O_179.ext E_181
    have ge_181 : h_179.size ≤ b181 := Nat.le_of_eq q_181.symm
    have sz_b181 : h0.size ≤ b181 := Nat.le_trans (Nat.le_trans le_178 le_179) ge_181
    have g_b181 : n0 ≤ b181 := Nat.le_trans Z0 sz_b181
    have F_181_20 : Fld Z h_181 b181 "java/lang/String" "value" "[B" .null := D_181 (Or.inr (wd_20 hw)) (ty := (.array .byte)) pf_0
    have F_181_21 : Fld Z h_181 b181 "java/lang/String" "coder" "B" (.int (0 : Int32)) := D_181 (Or.inr (wd_21 hw)) (ty := .byte) pf_1
    have Sf_b181 := Safe.ext E_181 C_179.1 (Safe.new ge_181)
    show Go p e below _ (T_181.setTop (mkF m 67 #[.val (.int p0), .val (.int p1), .val (.int p2), .val (.int p3), .val (.int (1 : Int32)), .val (.int v1_175), .val (.int v1_176), .val (.int v1_177), .val (.ref b178), .unset, .unset, .unset, .unset, .unset, .unset] [(.ref b181)]))
    refine Go.step (fun _ k => XS.dup X_181.here hx rfl (hb hby at_67) rfl rfl k) ?_
    show Go p e below _ (T_181.setTop (mkF m 68 #[.val (.int p0), .val (.int p1), .val (.int p2), .val (.int p3), .val (.int (1 : Int32)), .val (.int v1_175), .val (.int v1_176), .val (.int v1_177), .val (.ref b178), .unset, .unset, .unset, .unset, .unset, .unset] [(.ref b181), (.ref b181)]))
    refine Go.step (fun _ k => XS.aload X_181.here hx rfl (hb hby at_68) rfl rfl k) ?_
    show Go p e below _ (T_181.setTop (mkF m 70 #[.val (.int p0), .val (.int p1), .val (.int p2), .val (.int p3), .val (.int (1 : Int32)), .val (.int v1_175), .val (.int v1_176), .val (.int v1_177), .val (.ref b178), .unset, .unset, .unset, .unset, .unset, .unset] [(.ref b178), (.ref b181), (.ref b181)]))
    have f182 : Arv Z h_181 b178 k_178 .char (1 : Int32) [(.int v1_175)] (.int (0 : Int32)) := (V_179.ext E_181)
    have hp183 : ∀ c ∈ ([v1_175] : List Int32), ¬ c < 0 ∧ ¬ (255 : Int32) < c := (latc hlat_175 lat0)
    obtain ⟨v_184, T_184, L_184, X_184, hQ_184, st_184⟩ := goC X_181 hx hZ (y := ({ cls := "java/lang/String", name := "<init>", desc := "([C)V" } : Jvm.MethodName)) hown rfl (wd_8 hw) (wd_9 hw) (wd_10 hw) (by decide) (StrChars.Road.backV (W := 1) hZ (sw_words hw) (kI := 4) (wd_6 hw) (cs := ([v1_175] : List Int32)) (bs := ([v1_175] : List Int32).map (fun c => c.toInt8.toInt32)) (n := 1) g_b181 (Nat.le_trans Z0 KP_181.1) A_181 F_181_20 F_181_21 f182 (S_cs.ext O_181.2) n_cs rfl rfl (by decide) (by decide) hp183 rfl (by decide) (by decide)) e_181 (g := (mkF m 70 #[.val (.int p0), .val (.int p1), .val (.int p2), .val (.int p3), .val (.int (1 : Int32)), .val (.int v1_175), .val (.int v1_176), .val (.int v1_177), .val (.ref b178), .unset, .unset, .unset, .unset, .unset, .unset] [(.ref b178), (.ref b181), (.ref b181)])) rfl (by rw [hml]; rfl) (a := b181) (argsL := [(.ref b178)]) (rest := [(.ref b181)]) rfl (lenOf pd_4 rfl) rfl (by show 2 * 0 + _ ≤ _; exact Nat.le_of_eq rfl) (hb hby at_70) (by decide) (by decide)
    obtain ⟨rfl, Nq_184, K_184, Ex_184, Fc_184, t_184, kb_184, -, gt_184, -, Fv_184, Av_184⟩ := hQ_184
    have N_184 := Fr.app N_179 Nq_184
    have C_184 := CHr.keep K_184 (sfS Sf_b181 sf0) C_181.1
    have CR_184 := CHr.trans CR_181 C_184
    have le_184 : h_181.size ≤ T_184.heap.size := K_184.1
    have KP_184 := KP_181.trans K_184 (allS (Or.inr sz_b181) all0)
    have O_184 := O_181.keep K_184 (allS g_b181 all0)
    have Sx_184 : Str Z (T_184.heap).size (T_184.heap) b181 ([v1_175] : List Int32) := ⟨t_184, kb_184, Ex_184.lt, Av_184.lt, Ex_184, Fv_184, Fc_184, Av_184, hp183, Nat.le_of_ble_eq_true rfl⟩
    refine Go.step st_184 ?_
    show Go p e below _ (T_184.setTop (mkF m 73 #[.val (.int p0), .val (.int p1), .val (.int p2), .val (.int p3), .val (.int (1 : Int32)), .val (.int v1_175), .val (.int v1_176), .val (.int v1_177), .val (.ref b178), .unset, .unset, .unset, .unset, .unset, .unset] [(.ref b181)]))
    refine Go.step (fun _ k => XS.astore X_184.here hx rfl (hb hby at_73) rfl rfl (l' := #[.val (.int p0), .val (.int p1), .val (.int p2), .val (.int p3), .val (.int (1 : Int32)), .val (.int v1_175), .val (.int v1_176), .val (.int v1_177), .val (.ref b178), .val (.ref b181), .unset, .unset, .unset, .unset, .unset]) rfl k) ?_
    show Go p e below _ (T_184.setTop (mkF m 75 #[.val (.int p0), .val (.int p1), .val (.int p2), .val (.int p3), .val (.int (1 : Int32)), .val (.int v1_175), .val (.int v1_176), .val (.int v1_177), .val (.ref b178), .val (.ref b181), .unset, .unset, .unset, .unset, .unset] []))
    obtain ⟨T_185, h_185, X_185, e_185, E_185, A_185, D_185, -, st_185⟩ := newO X_184 hx hZ hown (wd_26 hw) (wd_27 hw) (wd_28 hw) rfl (g := (mkF m 75 #[.val (.int p0), .val (.int p1), .val (.int p2), .val (.int p3), .val (.int (1 : Int32)), .val (.int v1_175), .val (.int v1_176), .val (.int v1_177), .val (.ref b178), .val (.ref b181), .unset, .unset, .unset, .unset, .unset] [])) rfl (hb hby at_75) (by decide) (by decide)
    obtain ⟨b185, q_185⟩ : ∃ z, z = T_184.heap.size := ⟨_, rfl⟩
    rw [← q_185] at A_185 D_185 st_185
    refine Go.step st_185 ?_
    have C_185 := CHr.ext E_185 C_184.1
    have CR_185 := CHr.trans CR_184 C_185
    have le_185 : T_184.heap.size ≤ h_185.size := E_185.1
    have KP_185 := KP_184.ext E_185
    have O_185 := O_184.ext E_185
    have ge_185 : T_184.heap.size ≤ b185 := Nat.le_of_eq q_185.symm
    have sz_b185 : h0.size ≤ b185 := Nat.le_trans (Nat.le_trans le_178 (Nat.le_trans le_179 (Nat.le_trans le_181 le_184))) ge_185
    have g_b185 : n0 ≤ b185 := Nat.le_trans Z0 sz_b185
    have F_185_34 : Fld Z h_185 b185 "com/example/sigyn/sigyn/sip/SipScanner" "text" "Ljava/lang/String;" .null := D_185 (Or.inr (wd_34 hw)) (ty := (.object "java/lang/String")) pf_2
    have F_185_41 : Fld Z h_185 b185 "com/example/sigyn/sigyn/sip/SipScanner" "pos" "I" (.int (0 : Int32)) := D_185 (Or.inl (wd_41 hw)) (ty := .int) pf_3
    have Sf_b185 := Safe.ext E_185 C_184.1 (Safe.new ge_185)
    show Go p e below _ (T_185.setTop (mkF m 78 #[.val (.int p0), .val (.int p1), .val (.int p2), .val (.int p3), .val (.int (1 : Int32)), .val (.int v1_175), .val (.int v1_176), .val (.int v1_177), .val (.ref b178), .val (.ref b181), .unset, .unset, .unset, .unset, .unset] [(.ref b185)]))
    refine Go.step (fun _ k => XS.dup X_185.here hx rfl (hb hby at_78) rfl rfl k) ?_
    show Go p e below _ (T_185.setTop (mkF m 79 #[.val (.int p0), .val (.int p1), .val (.int p2), .val (.int p3), .val (.int (1 : Int32)), .val (.int v1_175), .val (.int v1_176), .val (.int v1_177), .val (.ref b178), .val (.ref b181), .unset, .unset, .unset, .unset, .unset] [(.ref b185), (.ref b185)]))
    refine Go.step (fun _ k => XS.aload X_185.here hx rfl (hb hby at_79) rfl rfl k) ?_
    show Go p e below _ (T_185.setTop (mkF m 81 #[.val (.int p0), .val (.int p1), .val (.int p2), .val (.int p3), .val (.int (1 : Int32)), .val (.int v1_175), .val (.int v1_176), .val (.int v1_177), .val (.ref b178), .val (.ref b181), .unset, .unset, .unset, .unset, .unset] [(.ref b181), (.ref b185), (.ref b185)]))
    obtain ⟨v_186, T_186, L_186, X_186, hQ_186, st_186⟩ := goC X_185 hx hZ (y := ({ cls := "com/example/sigyn/sigyn/sip/SipScanner", name := "<init>", desc := "(Ljava/lang/String;)V" } : Jvm.MethodName)) hown rfl (wd_29 hw) (wd_30 hw) (wd_31 hw) (by decide) (backOf (W := 1) (rm_initSS l Z a0 hw zc vfm (b185) (b181) h_185 n0 (Nat.le_trans Z0 KP_185.1) A_185 F_185_34 F_185_41 g_b185 hSt O_185) hZ (wd_31 hw) (wd_28 hw) (by decide) (by decide)) e_185 (g := (mkF m 81 #[.val (.int p0), .val (.int p1), .val (.int p2), .val (.int p3), .val (.int (1 : Int32)), .val (.int v1_175), .val (.int v1_176), .val (.int v1_177), .val (.ref b178), .val (.ref b181), .unset, .unset, .unset, .unset, .unset] [(.ref b181), (.ref b185), (.ref b185)])) rfl (by rw [hml]; rfl) (a := b185) (argsL := [(.ref b181)]) (rest := [(.ref b185)]) rfl (lenOf pd_5 rfl) rfl (by show 2 * 0 + _ ≤ _; exact Nat.le_of_eq rfl) (hb hby at_81) (by decide) (by decide)
    obtain ⟨rfl, Nq_186, K_186, u0_186, u1_186⟩ := hQ_186
    have N_186 := Fr.app N_184 Nq_186
    have C_186 := CHr.keep K_186 (sfS (Safe.exa hZ.alike A_185 (by decide) (by decide)) sf0) C_185.1
    have CR_186 := CHr.trans CR_185 C_186
    have le_186 : h_185.size ≤ T_186.heap.size := K_186.1
    have KP_186 := KP_185.trans K_186 (allS (Or.inr sz_b185) all0)
    have O_186 := O_185.keep K_186 (allS g_b185 all0)
    refine Go.step st_186 ?_
    show Go p e below _ (T_186.setTop (mkF m 84 #[.val (.int p0), .val (.int p1), .val (.int p2), .val (.int p3), .val (.int (1 : Int32)), .val (.int v1_175), .val (.int v1_176), .val (.int v1_177), .val (.ref b178), .val (.ref b181), .unset, .unset, .unset, .unset, .unset] [(.ref b185)]))
    refine Go.step (fun _ k => XS.astore X_186.here hx rfl (hb hby at_84) rfl rfl (l' := #[.val (.int p0), .val (.int p1), .val (.int p2), .val (.int p3), .val (.int (1 : Int32)), .val (.int v1_175), .val (.int v1_176), .val (.int v1_177), .val (.ref b178), .val (.ref b181), .val (.ref b185), .unset, .unset, .unset, .unset]) rfl k) ?_
    show Go p e below _ (T_186.setTop (mkF m 86 #[.val (.int p0), .val (.int p1), .val (.int p2), .val (.int p3), .val (.int (1 : Int32)), .val (.int v1_175), .val (.int v1_176), .val (.int v1_177), .val (.ref b178), .val (.ref b181), .val (.ref b185), .unset, .unset, .unset, .unset] []))
    refine Go.step (fun _ k => XS.aload X_186.here hx rfl (hb hby at_86) rfl rfl k) ?_
    show Go p e below _ (T_186.setTop (mkF m 88 #[.val (.int p0), .val (.int p1), .val (.int p2), .val (.int p3), .val (.int (1 : Int32)), .val (.int v1_175), .val (.int v1_176), .val (.int v1_177), .val (.ref b178), .val (.ref b181), .val (.ref b185), .unset, .unset, .unset, .unset] [(.ref b185)]))
    have f187 : Str Z (T_184.heap).size T_186.heap b181 ([v1_175] : List Int32) := ((Sx_184.ext E_185).keep K_186 (allS (Nat.le_trans (Nat.le_refl _) ge_185) all0))
    have f189 : Exa Z T_186.heap b185 "com/example/sigyn/sigyn/sip/SipScanner" := (A_185.keep K_186)
    obtain ⟨v_188, T_188, L_188, X_188, hQ_188, st_188⟩ := goV X_186 hx hZ (y := ({ cls := "com/example/sigyn/sigyn/sip/SipScanner", name := "atEnd", desc := "()Z" } : Jvm.MethodName)) (z := ({ cls := "com/example/sigyn/sigyn/sip/SipScanner", name := "atEnd", desc := "()Z" } : Jvm.MethodName)) hown (wd_35 hw) (wd_36 hw) (notFace_of_selects (args := #[]) (mvT hZ (wd_38 hw))) (wd_38 hw) (wd_37 hw) (by decide) (backOf (W := 0) (rm_atEnd l Z a0 hw zc vfm (b185) ((0 : Int32)) (b181) (([v1_175] : List Int32)) ((1 : Int32)) T_186.heap n0 (Nat.le_trans Z0 KP_186.1) u0_186 u1_186 (f187.mono (Nat.le_trans le_185 le_186)) rfl hSt O_186) hZ (wd_39 hw) (wd_28 hw) (by decide) (by decide)) rfl f189 (g := (mkF m 88 #[.val (.int p0), .val (.int p1), .val (.int p2), .val (.int p3), .val (.int (1 : Int32)), .val (.int v1_175), .val (.int v1_176), .val (.int v1_177), .val (.ref b178), .val (.ref b181), .val (.ref b185), .unset, .unset, .unset, .unset] [(.ref b185)])) rfl (by rw [hml]; rfl) (argsL := []) (rest := []) rfl (lenOf pd_6 rfl) rfl (by show 2 * 0 + _ ≤ _; exact Nat.le_of_eq rfl) (hb hby at_88) (by decide) (by decide)
    obtain ⟨rfl, Nq_188, e_188⟩ := hQ_188
    have N_188 := Fr.app N_186 Nq_188
    refine Go.step st_188 ?_
    show Go p e below _ (T_188.setTop (mkF m 91 #[.val (.int p0), .val (.int p1), .val (.int p2), .val (.int p3), .val (.int (1 : Int32)), .val (.int v1_175), .val (.int v1_176), .val (.int v1_177), .val (.ref b178), .val (.ref b181), .val (.ref b185), .unset, .unset, .unset, .unset] [(.int (if (0 : Int32) = (1 : Int32) then (1 : Int32) else 0))]))
    refine Go.step (fun _ k => XS.istore X_188.here hx rfl (hb hby at_91) rfl (l' := #[.val (.int p0), .val (.int p1), .val (.int p2), .val (.int p3), .val (.int (1 : Int32)), .val (.int v1_175), .val (.int v1_176), .val (.int v1_177), .val (.ref b178), .val (.ref b181), .val (.ref b185), .val (.int (if (0 : Int32) = (1 : Int32) then (1 : Int32) else 0)), .unset, .unset, .unset]) rfl k) ?_
    show Go p e below _ (T_188.setTop (mkF m 93 #[.val (.int p0), .val (.int p1), .val (.int p2), .val (.int p3), .val (.int (1 : Int32)), .val (.int v1_175), .val (.int v1_176), .val (.int v1_177), .val (.ref b178), .val (.ref b181), .val (.ref b185), .val (.int (if (0 : Int32) = (1 : Int32) then (1 : Int32) else 0)), .unset, .unset, .unset] []))
    refine Go.step (fun _ k => XS.iload X_188.here hx rfl (hb hby at_93) rfl  k) ?_
    show Go p e below _ (T_188.setTop (mkF m 95 #[.val (.int p0), .val (.int p1), .val (.int p2), .val (.int p3), .val (.int (1 : Int32)), .val (.int v1_175), .val (.int v1_176), .val (.int v1_177), .val (.ref b178), .val (.ref b181), .val (.ref b185), .val (.int (if (0 : Int32) = (1 : Int32) then (1 : Int32) else 0)), .unset, .unset, .unset] [(.int (if (0 : Int32) = (1 : Int32) then (1 : Int32) else 0))]))
    refine Go.step (fun _ k => XS.iload X_188.here hx rfl (hb hby at_95) rfl  k) ?_
    show Go p e below _ (T_188.setTop (mkF m 97 #[.val (.int p0), .val (.int p1), .val (.int p2), .val (.int p3), .val (.int (1 : Int32)), .val (.int v1_175), .val (.int v1_176), .val (.int v1_177), .val (.ref b178), .val (.ref b181), .val (.ref b185), .val (.int (if (0 : Int32) = (1 : Int32) then (1 : Int32) else 0)), .unset, .unset, .unset] [(.int (1 : Int32)), (.int (if (0 : Int32) = (1 : Int32) then (1 : Int32) else 0))]))
    refine Go.step (fun _ k => XS.ifYes X_188.here hx rfl (pc0 := 97) (pc' := 104) rfl (hb hby at_97) rfl ((if0 _ _).trans (feq ((by decide) : ¬ ((1 : Int32) = (0 : Int32)))).2) (by decide) (by decide) k) ?_
    show Go p e below _ (T_188.setTop (mkF m 104 #[.val (.int p0), .val (.int p1), .val (.int p2), .val (.int p3), .val (.int (1 : Int32)), .val (.int v1_175), .val (.int v1_176), .val (.int v1_177), .val (.ref b178), .val (.ref b181), .val (.ref b185), .val (.int (if (0 : Int32) = (1 : Int32) then (1 : Int32) else 0)), .unset, .unset, .unset] [(.int (if (0 : Int32) = (1 : Int32) then (1 : Int32) else 0))]))
    refine Go.step (fun _ k => XS.iconst X_188.here hx rfl (hb hby at_104) k) ?_
    show Go p e below _ (T_188.setTop (mkF m 105 #[.val (.int p0), .val (.int p1), .val (.int p2), .val (.int p3), .val (.int (1 : Int32)), .val (.int v1_175), .val (.int v1_176), .val (.int v1_177), .val (.ref b178), .val (.ref b181), .val (.ref b185), .val (.int (if (0 : Int32) = (1 : Int32) then (1 : Int32) else 0)), .unset, .unset, .unset] [(.int (0 : Int32)), (.int (if (0 : Int32) = (1 : Int32) then (1 : Int32) else 0))]))
    refine Go.step (fun _ k => XS.icmpYes X_188.here hx rfl (pc0 := 105) (pc' := 110) rfl (hb hby at_105) rfl (teq ((by decide) : (if (0 : Int32) = (1 : Int32) then (1 : Int32) else 0) = (0 : Int32))).1 (by decide) (by decide) k) ?_
    show Go p e below _ (T_188.setTop (mkF m 110 #[.val (.int p0), .val (.int p1), .val (.int p2), .val (.int p3), .val (.int (1 : Int32)), .val (.int v1_175), .val (.int v1_176), .val (.int v1_177), .val (.ref b178), .val (.ref b181), .val (.ref b185), .val (.int (if (0 : Int32) = (1 : Int32) then (1 : Int32) else 0)), .unset, .unset, .unset] []))
    refine Go.step (fun _ k => XS.aload X_188.here hx rfl (hb hby at_110) rfl rfl k) ?_
    show Go p e below _ (T_188.setTop (mkF m 112 #[.val (.int p0), .val (.int p1), .val (.int p2), .val (.int p3), .val (.int (1 : Int32)), .val (.int v1_175), .val (.int v1_176), .val (.int v1_177), .val (.ref b178), .val (.ref b181), .val (.ref b185), .val (.int (if (0 : Int32) = (1 : Int32) then (1 : Int32) else 0)), .unset, .unset, .unset] [(.ref b185)]))
    obtain ⟨v_190, T_190, L_190, X_190, hQ_190, st_190⟩ := goV X_188 hx hZ (y := ({ cls := "com/example/sigyn/sigyn/sip/SipScanner", name := "skipSpace", desc := "()I" } : Jvm.MethodName)) (z := ({ cls := "com/example/sigyn/sigyn/sip/SipScanner", name := "skipSpace", desc := "()I" } : Jvm.MethodName)) hown (wd_53 hw) (wd_54 hw) (notFace_of_selects (args := #[]) (mvT hZ (wd_56 hw))) (wd_56 hw) (wd_55 hw) (by decide) (backOf (W := 0) (rm_skip1 l Z a0 hw zc vfm (b185) (b181) (v1_175) T_186.heap n0 (Nat.le_trans Z0 KP_186.1) f189 u0_186 u1_186 (f187.mono (Nat.le_trans le_185 le_186)) g_b185 hSt O_186) hZ (wd_57 hw) (wd_28 hw) (by decide) (by decide)) e_188 f189 (g := (mkF m 112 #[.val (.int p0), .val (.int p1), .val (.int p2), .val (.int p3), .val (.int (1 : Int32)), .val (.int v1_175), .val (.int v1_176), .val (.int v1_177), .val (.ref b178), .val (.ref b181), .val (.ref b185), .val (.int (if (0 : Int32) = (1 : Int32) then (1 : Int32) else 0)), .unset, .unset, .unset] [(.ref b185)])) rfl (by rw [hml]; rfl) (argsL := []) (rest := []) rfl (lenOf pd_1 rfl) rfl (by show 2 * 0 + _ ≤ _; exact Nat.le_of_eq rfl) (hb hby at_112) (by decide) (by decide)
    obtain ⟨v1_190, v2_190, rfl, Nq_190, K_190, u0_190, u1_190, u2_190⟩ := hQ_190
    have N_190 := Fr.app N_188 Nq_190
    have C_190 := CHr.keep K_190 (sfS (Safe.exa hZ.alike f189 (by decide) (by decide)) sf0) C_186.1
    have CR_190 := CHr.trans CR_186 C_190
    have le_190 : T_186.heap.size ≤ T_190.heap.size := K_190.1
    have KP_190 := KP_186.trans K_190 (allS (Or.inr sz_b185) all0)
    have O_190 := O_186.keep K_190 (allS g_b185 all0)
    have hv_190 := u2_190
    refine Go.step st_190 ?_
    show Go p e below _ (T_190.setTop (mkF m 115 #[.val (.int p0), .val (.int p1), .val (.int p2), .val (.int p3), .val (.int (1 : Int32)), .val (.int v1_175), .val (.int v1_176), .val (.int v1_177), .val (.ref b178), .val (.ref b181), .val (.ref b185), .val (.int (if (0 : Int32) = (1 : Int32) then (1 : Int32) else 0)), .unset, .unset, .unset] [(.int v2_190)]))
    have hv := hv_190
    show Go p e below _ (T_190.setTop (mkF m 115 #[.val (.int p0), .val (.int p1), .val (.int p2), .val (.int p3), .val (.int (1 : Int32)), .val (.int v1_175), .val (.int v1_176), .val (.int v1_177), .val (.ref b178), .val (.ref b181), .val (.ref b185), .val (.int (if (0 : Int32) = (1 : Int32) then (1 : Int32) else 0)), .unset, .unset, .unset] [(.int v2_190)]))
    refine Go.step (fun _ k => XS.pop X_190.here hx rfl (hb hby at_115) rfl rfl k) ?_
    show Go p e below _ (T_190.setTop (mkF m 116 #[.val (.int p0), .val (.int p1), .val (.int p2), .val (.int p3), .val (.int (1 : Int32)), .val (.int v1_175), .val (.int v1_176), .val (.int v1_177), .val (.ref b178), .val (.ref b181), .val (.ref b185), .val (.int (if (0 : Int32) = (1 : Int32) then (1 : Int32) else 0)), .unset, .unset, .unset] []))
    refine Go.step (fun _ k => XS.iload X_190.here hx rfl (hb hby at_116) rfl  k) ?_
    show Go p e below _ (T_190.setTop (mkF m 118 #[.val (.int p0), .val (.int p1), .val (.int p2), .val (.int p3), .val (.int (1 : Int32)), .val (.int v1_175), .val (.int v1_176), .val (.int v1_177), .val (.ref b178), .val (.ref b181), .val (.ref b185), .val (.int (if (0 : Int32) = (1 : Int32) then (1 : Int32) else 0)), .unset, .unset, .unset] [(.int (1 : Int32))]))
    refine Go.step (fun _ k => XS.iconst X_190.here hx rfl (hb hby at_118) k) ?_
    show Go p e below _ (T_190.setTop (mkF m 119 #[.val (.int p0), .val (.int p1), .val (.int p2), .val (.int p3), .val (.int (1 : Int32)), .val (.int v1_175), .val (.int v1_176), .val (.int v1_177), .val (.ref b178), .val (.ref b181), .val (.ref b185), .val (.int (if (0 : Int32) = (1 : Int32) then (1 : Int32) else 0)), .unset, .unset, .unset] [(.int (1 : Int32)), (.int (1 : Int32))]))
    refine Go.step (fun _ k => XS.icmpNo X_190.here hx rfl (hb hby at_119) rfl (flt ((by decide) : ¬ ((1 : Int32) < (1 : Int32)))).1 k) ?_
    show Go p e below _ (T_190.setTop (mkF m 122 #[.val (.int p0), .val (.int p1), .val (.int p2), .val (.int p3), .val (.int (1 : Int32)), .val (.int v1_175), .val (.int v1_176), .val (.int v1_177), .val (.ref b178), .val (.ref b181), .val (.ref b185), .val (.int (if (0 : Int32) = (1 : Int32) then (1 : Int32) else 0)), .unset, .unset, .unset] []))
    refine Go.step (fun _ k => XS.iload X_190.here hx rfl (hb hby at_122) rfl  k) ?_
    show Go p e below _ (T_190.setTop (mkF m 124 #[.val (.int p0), .val (.int p1), .val (.int p2), .val (.int p3), .val (.int (1 : Int32)), .val (.int v1_175), .val (.int v1_176), .val (.int v1_177), .val (.ref b178), .val (.ref b181), .val (.ref b185), .val (.int (if (0 : Int32) = (1 : Int32) then (1 : Int32) else 0)), .unset, .unset, .unset] [(.int v1_175)]))
    obtain ⟨v_191, T_191, L_191, X_191, hQ_191, st_191⟩ := goS X_190 hx hZ (y := ({ cls := "com/example/sigyn/sigyn/sip/SipScannerAtEndPinLaw", name := "sp", desc := "(C)Z" } : Jvm.MethodName)) hown (wd_93 hw) (wd_94 hw) (wd_2 hw) (wd_95 hw) (by decide) (backOf (W := 0) (rm_sp l Z a0 hw zc vfm (v1_175) T_190.heap n0 (Nat.le_trans Z0 KP_190.1) hSt O_190) hZ (wd_95 hw) (wd_2 hw) (by decide) (by decide)) rfl (g := (mkF m 124 #[.val (.int p0), .val (.int p1), .val (.int p2), .val (.int p3), .val (.int (1 : Int32)), .val (.int v1_175), .val (.int v1_176), .val (.int v1_177), .val (.ref b178), .val (.ref b181), .val (.ref b185), .val (.int (if (0 : Int32) = (1 : Int32) then (1 : Int32) else 0)), .unset, .unset, .unset] [(.int v1_175)])) rfl (by rw [hml]; rfl) (argsL := [(.int v1_175)]) (rest := []) rfl (lenOf pd_3 rfl) rfl (by show 2 * 0 + _ ≤ _; exact Nat.le_of_eq rfl) (hb hby at_124) (by decide) (by decide)
    obtain ⟨rfl, Nq_191, e_191⟩ := hQ_191
    have N_191 := Fr.app N_190 Nq_191
    refine Go.step st_191 ?_
    show Go p e below _ (T_191.setTop (mkF m 127 #[.val (.int p0), .val (.int p1), .val (.int p2), .val (.int p3), .val (.int (1 : Int32)), .val (.int v1_175), .val (.int v1_176), .val (.int v1_177), .val (.ref b178), .val (.ref b181), .val (.ref b185), .val (.int (if (0 : Int32) = (1 : Int32) then (1 : Int32) else 0)), .unset, .unset, .unset] [(.int (if isp v1_175 then (1 : Int32) else 0))]))
    by_cases z0 : isp v1_175
    · skip
      refine Go.step (fun _ k => XS.ifNo X_191.here hx rfl (hb hby at_127) rfl ((if0 _ _).trans (feq (b01_ne z0)).1) k) ?_
      show Go p e below _ (T_191.setTop (mkF m 130 #[.val (.int p0), .val (.int p1), .val (.int p2), .val (.int p3), .val (.int (1 : Int32)), .val (.int v1_175), .val (.int v1_176), .val (.int v1_177), .val (.ref b178), .val (.ref b181), .val (.ref b185), .val (.int (if (0 : Int32) = (1 : Int32) then (1 : Int32) else 0)), .unset, .unset, .unset] []))
      refine Go.step (fun _ k => XS.iload X_191.here hx rfl (hb hby at_130) rfl  k) ?_
      show Go p e below _ (T_191.setTop (mkF m 132 #[.val (.int p0), .val (.int p1), .val (.int p2), .val (.int p3), .val (.int (1 : Int32)), .val (.int v1_175), .val (.int v1_176), .val (.int v1_177), .val (.ref b178), .val (.ref b181), .val (.ref b185), .val (.int (if (0 : Int32) = (1 : Int32) then (1 : Int32) else 0)), .unset, .unset, .unset] [(.int (1 : Int32))]))
      refine Go.step (fun _ k => XS.iconst X_191.here hx rfl (hb hby at_132) k) ?_
      show Go p e below _ (T_191.setTop (mkF m 133 #[.val (.int p0), .val (.int p1), .val (.int p2), .val (.int p3), .val (.int (1 : Int32)), .val (.int v1_175), .val (.int v1_176), .val (.int v1_177), .val (.ref b178), .val (.ref b181), .val (.ref b185), .val (.int (if (0 : Int32) = (1 : Int32) then (1 : Int32) else 0)), .unset, .unset, .unset] [(.int (2 : Int32)), (.int (1 : Int32))]))
      refine Go.step (fun _ k => XS.icmpYes X_191.here hx rfl (pc0 := 133) (pc' := 144) rfl (hb hby at_133) rfl (tlt ((by decide) : (1 : Int32) < (2 : Int32))).1 (by decide) (by decide) k) ?_
      show Go p e below _ (T_191.setTop (mkF m 144 #[.val (.int p0), .val (.int p1), .val (.int p2), .val (.int p3), .val (.int (1 : Int32)), .val (.int v1_175), .val (.int v1_176), .val (.int v1_177), .val (.ref b178), .val (.ref b181), .val (.ref b185), .val (.int (if (0 : Int32) = (1 : Int32) then (1 : Int32) else 0)), .unset, .unset, .unset] []))
      refine Go.step (fun _ k => XS.iload X_191.here hx rfl (hb hby at_144) rfl  k) ?_
      show Go p e below _ (T_191.setTop (mkF m 146 #[.val (.int p0), .val (.int p1), .val (.int p2), .val (.int p3), .val (.int (1 : Int32)), .val (.int v1_175), .val (.int v1_176), .val (.int v1_177), .val (.ref b178), .val (.ref b181), .val (.ref b185), .val (.int (if (0 : Int32) = (1 : Int32) then (1 : Int32) else 0)), .unset, .unset, .unset] [(.int (1 : Int32))]))
      refine Go.step (fun _ k => XS.iconst X_191.here hx rfl (hb hby at_146) k) ?_
      show Go p e below _ (T_191.setTop (mkF m 147 #[.val (.int p0), .val (.int p1), .val (.int p2), .val (.int p3), .val (.int (1 : Int32)), .val (.int v1_175), .val (.int v1_176), .val (.int v1_177), .val (.ref b178), .val (.ref b181), .val (.ref b185), .val (.int (if (0 : Int32) = (1 : Int32) then (1 : Int32) else 0)), .unset, .unset, .unset] [(.int (3 : Int32)), (.int (1 : Int32))]))
      refine Go.step (fun _ k => XS.icmpYes X_191.here hx rfl (pc0 := 147) (pc' := 158) rfl (hb hby at_147) rfl (tlt ((by decide) : (1 : Int32) < (3 : Int32))).1 (by decide) (by decide) k) ?_
      show Go p e below _ (T_191.setTop (mkF m 158 #[.val (.int p0), .val (.int p1), .val (.int p2), .val (.int p3), .val (.int (1 : Int32)), .val (.int v1_175), .val (.int v1_176), .val (.int v1_177), .val (.ref b178), .val (.ref b181), .val (.ref b185), .val (.int (if (0 : Int32) = (1 : Int32) then (1 : Int32) else 0)), .unset, .unset, .unset] []))
      refine Go.step (fun _ k => XS.iconst X_191.here hx rfl (hb hby at_158) k) ?_
      show Go p e below _ (T_191.setTop (mkF m 159 #[.val (.int p0), .val (.int p1), .val (.int p2), .val (.int p3), .val (.int (1 : Int32)), .val (.int v1_175), .val (.int v1_176), .val (.int v1_177), .val (.ref b178), .val (.ref b181), .val (.ref b185), .val (.int (if (0 : Int32) = (1 : Int32) then (1 : Int32) else 0)), .unset, .unset, .unset] [(.int (1 : Int32))]))
      refine Go.step (fun _ k => XS.goto X_191.here hx rfl (pc0 := 159) (pc' := 163) rfl (hb hby at_159) (by decide) (by decide) k) ?_
      show Go p e below _ (T_191.setTop (mkF m 163 #[.val (.int p0), .val (.int p1), .val (.int p2), .val (.int p3), .val (.int (1 : Int32)), .val (.int v1_175), .val (.int v1_176), .val (.int v1_177), .val (.ref b178), .val (.ref b181), .val (.ref b185), .val (.int (if (0 : Int32) = (1 : Int32) then (1 : Int32) else 0)), .unset, .unset, .unset] [(.int (1 : Int32))]))
      refine Go.step (fun _ k => XS.istore X_191.here hx rfl (hb hby at_163) rfl (l' := #[.val (.int p0), .val (.int p1), .val (.int p2), .val (.int p3), .val (.int (1 : Int32)), .val (.int v1_175), .val (.int v1_176), .val (.int v1_177), .val (.ref b178), .val (.ref b181), .val (.ref b185), .val (.int (if (0 : Int32) = (1 : Int32) then (1 : Int32) else 0)), .val (.int (1 : Int32)), .unset, .unset]) rfl k) ?_
      show Go p e below _ (T_191.setTop (mkF m 165 #[.val (.int p0), .val (.int p1), .val (.int p2), .val (.int p3), .val (.int (1 : Int32)), .val (.int v1_175), .val (.int v1_176), .val (.int v1_177), .val (.ref b178), .val (.ref b181), .val (.ref b185), .val (.int (if (0 : Int32) = (1 : Int32) then (1 : Int32) else 0)), .val (.int (1 : Int32)), .unset, .unset] []))
      refine Go.step (fun _ k => XS.aload X_191.here hx rfl (hb hby at_165) rfl rfl k) ?_
      show Go p e below _ (T_191.setTop (mkF m 167 #[.val (.int p0), .val (.int p1), .val (.int p2), .val (.int p3), .val (.int (1 : Int32)), .val (.int v1_175), .val (.int v1_176), .val (.int v1_177), .val (.ref b178), .val (.ref b181), .val (.ref b185), .val (.int (if (0 : Int32) = (1 : Int32) then (1 : Int32) else 0)), .val (.int (1 : Int32)), .unset, .unset] [(.ref b185)]))
      have f192 : Str Z (T_184.heap).size T_190.heap b181 ([v1_175] : List Int32) := (f187.keep K_190 (allS (Nat.le_trans (Nat.le_refl _) ge_185) all0))
      have f194 : Exa Z T_190.heap b185 "com/example/sigyn/sigyn/sip/SipScanner" := (f189.keep K_190)
      obtain ⟨v_193, T_193, L_193, X_193, hQ_193, st_193⟩ := goV X_191 hx hZ (y := ({ cls := "com/example/sigyn/sigyn/sip/SipScanner", name := "atEnd", desc := "()Z" } : Jvm.MethodName)) (z := ({ cls := "com/example/sigyn/sigyn/sip/SipScanner", name := "atEnd", desc := "()Z" } : Jvm.MethodName)) hown (wd_35 hw) (wd_36 hw) (notFace_of_selects (args := #[]) (mvT hZ (wd_38 hw))) (wd_38 hw) (wd_37 hw) (by decide) (backOf (W := 0) (rm_atEnd l Z a0 hw zc vfm (b185) (v1_190) (b181) (([v1_175] : List Int32)) ((1 : Int32)) T_190.heap n0 (Nat.le_trans Z0 KP_190.1) u0_190 u1_190 (f192.mono (Nat.le_trans le_185 (Nat.le_trans le_186 le_190))) rfl hSt O_190) hZ (wd_39 hw) (wd_28 hw) (by decide) (by decide)) e_191 f194 (g := (mkF m 167 #[.val (.int p0), .val (.int p1), .val (.int p2), .val (.int p3), .val (.int (1 : Int32)), .val (.int v1_175), .val (.int v1_176), .val (.int v1_177), .val (.ref b178), .val (.ref b181), .val (.ref b185), .val (.int (if (0 : Int32) = (1 : Int32) then (1 : Int32) else 0)), .val (.int (1 : Int32)), .unset, .unset] [(.ref b185)])) rfl (by rw [hml]; rfl) (argsL := []) (rest := []) rfl (lenOf pd_6 rfl) rfl (by show 2 * 0 + _ ≤ _; exact Nat.le_of_eq rfl) (hb hby at_167) (by decide) (by decide)
      obtain ⟨rfl, Nq_193, e_193⟩ := hQ_193
      have N_193 := Fr.app N_191 Nq_193
      refine Go.step st_193 ?_
      show Go p e below _ (T_193.setTop (mkF m 170 #[.val (.int p0), .val (.int p1), .val (.int p2), .val (.int p3), .val (.int (1 : Int32)), .val (.int v1_175), .val (.int v1_176), .val (.int v1_177), .val (.ref b178), .val (.ref b181), .val (.ref b185), .val (.int (if (0 : Int32) = (1 : Int32) then (1 : Int32) else 0)), .val (.int (1 : Int32)), .unset, .unset] [(.int (if v1_190 = (1 : Int32) then (1 : Int32) else 0))]))
      refine Go.step (fun _ k => XS.istore X_193.here hx rfl (hb hby at_170) rfl (l' := #[.val (.int p0), .val (.int p1), .val (.int p2), .val (.int p3), .val (.int (1 : Int32)), .val (.int v1_175), .val (.int v1_176), .val (.int v1_177), .val (.ref b178), .val (.ref b181), .val (.ref b185), .val (.int (if (0 : Int32) = (1 : Int32) then (1 : Int32) else 0)), .val (.int (1 : Int32)), .val (.int (if v1_190 = (1 : Int32) then (1 : Int32) else 0)), .unset]) rfl k) ?_
      show Go p e below _ (T_193.setTop (mkF m 172 #[.val (.int p0), .val (.int p1), .val (.int p2), .val (.int p3), .val (.int (1 : Int32)), .val (.int v1_175), .val (.int v1_176), .val (.int v1_177), .val (.ref b178), .val (.ref b181), .val (.ref b185), .val (.int (if (0 : Int32) = (1 : Int32) then (1 : Int32) else 0)), .val (.int (1 : Int32)), .val (.int (if v1_190 = (1 : Int32) then (1 : Int32) else 0)), .unset] []))
      refine Go.step (fun _ k => XS.aload X_193.here hx rfl (hb hby at_172) rfl rfl k) ?_
      show Go p e below _ (T_193.setTop (mkF m 174 #[.val (.int p0), .val (.int p1), .val (.int p2), .val (.int p3), .val (.int (1 : Int32)), .val (.int v1_175), .val (.int v1_176), .val (.int v1_177), .val (.ref b178), .val (.ref b181), .val (.ref b185), .val (.int (if (0 : Int32) = (1 : Int32) then (1 : Int32) else 0)), .val (.int (1 : Int32)), .val (.int (if v1_190 = (1 : Int32) then (1 : Int32) else 0)), .unset] [(.ref b185)]))
      obtain ⟨v_195, T_195, L_195, X_195, hQ_195, st_195⟩ := goV X_193 hx hZ (y := ({ cls := "com/example/sigyn/sigyn/sip/SipScanner", name := "atEnd", desc := "()Z" } : Jvm.MethodName)) (z := ({ cls := "com/example/sigyn/sigyn/sip/SipScanner", name := "atEnd", desc := "()Z" } : Jvm.MethodName)) hown (wd_35 hw) (wd_36 hw) (notFace_of_selects (args := #[]) (mvT hZ (wd_38 hw))) (wd_38 hw) (wd_37 hw) (by decide) (backOf (W := 0) (rm_atEnd l Z a0 hw zc vfm (b185) (v1_190) (b181) (([v1_175] : List Int32)) ((1 : Int32)) T_190.heap n0 (Nat.le_trans Z0 KP_190.1) u0_190 u1_190 (f192.mono (Nat.le_trans le_185 (Nat.le_trans le_186 le_190))) rfl hSt O_190) hZ (wd_39 hw) (wd_28 hw) (by decide) (by decide)) e_193 f194 (g := (mkF m 174 #[.val (.int p0), .val (.int p1), .val (.int p2), .val (.int p3), .val (.int (1 : Int32)), .val (.int v1_175), .val (.int v1_176), .val (.int v1_177), .val (.ref b178), .val (.ref b181), .val (.ref b185), .val (.int (if (0 : Int32) = (1 : Int32) then (1 : Int32) else 0)), .val (.int (1 : Int32)), .val (.int (if v1_190 = (1 : Int32) then (1 : Int32) else 0)), .unset] [(.ref b185)])) rfl (by rw [hml]; rfl) (argsL := []) (rest := []) rfl (lenOf pd_6 rfl) rfl (by show 2 * 0 + _ ≤ _; exact Nat.le_of_eq rfl) (hb hby at_174) (by decide) (by decide)
      obtain ⟨rfl, Nq_195, e_195⟩ := hQ_195
      have N_195 := Fr.app N_193 Nq_195
      refine Go.step st_195 ?_
      show Go p e below _ (T_195.setTop (mkF m 177 #[.val (.int p0), .val (.int p1), .val (.int p2), .val (.int p3), .val (.int (1 : Int32)), .val (.int v1_175), .val (.int v1_176), .val (.int v1_177), .val (.ref b178), .val (.ref b181), .val (.ref b185), .val (.int (if (0 : Int32) = (1 : Int32) then (1 : Int32) else 0)), .val (.int (1 : Int32)), .val (.int (if v1_190 = (1 : Int32) then (1 : Int32) else 0)), .unset] [(.int (if v1_190 = (1 : Int32) then (1 : Int32) else 0))]))
      refine Go.step (fun _ k => XS.istore X_195.here hx rfl (hb hby at_177) rfl (l' := #[.val (.int p0), .val (.int p1), .val (.int p2), .val (.int p3), .val (.int (1 : Int32)), .val (.int v1_175), .val (.int v1_176), .val (.int v1_177), .val (.ref b178), .val (.ref b181), .val (.ref b185), .val (.int (if (0 : Int32) = (1 : Int32) then (1 : Int32) else 0)), .val (.int (1 : Int32)), .val (.int (if v1_190 = (1 : Int32) then (1 : Int32) else 0)), .val (.int (if v1_190 = (1 : Int32) then (1 : Int32) else 0))]) rfl k) ?_
      show Go p e below _ (T_195.setTop (mkF m 179 #[.val (.int p0), .val (.int p1), .val (.int p2), .val (.int p3), .val (.int (1 : Int32)), .val (.int v1_175), .val (.int v1_176), .val (.int v1_177), .val (.ref b178), .val (.ref b181), .val (.ref b185), .val (.int (if (0 : Int32) = (1 : Int32) then (1 : Int32) else 0)), .val (.int (1 : Int32)), .val (.int (if v1_190 = (1 : Int32) then (1 : Int32) else 0)), .val (.int (if v1_190 = (1 : Int32) then (1 : Int32) else 0))] []))
      refine Go.step (fun _ k => XS.iload X_195.here hx rfl (hb hby at_179) rfl  k) ?_
      show Go p e below _ (T_195.setTop (mkF m 181 #[.val (.int p0), .val (.int p1), .val (.int p2), .val (.int p3), .val (.int (1 : Int32)), .val (.int v1_175), .val (.int v1_176), .val (.int v1_177), .val (.ref b178), .val (.ref b181), .val (.ref b185), .val (.int (if (0 : Int32) = (1 : Int32) then (1 : Int32) else 0)), .val (.int (1 : Int32)), .val (.int (if v1_190 = (1 : Int32) then (1 : Int32) else 0)), .val (.int (if v1_190 = (1 : Int32) then (1 : Int32) else 0))] [(.int (if v1_190 = (1 : Int32) then (1 : Int32) else 0))]))
      refine Go.step (fun _ k => XS.iload X_195.here hx rfl (hb hby at_181) rfl  k) ?_
      show Go p e below _ (T_195.setTop (mkF m 183 #[.val (.int p0), .val (.int p1), .val (.int p2), .val (.int p3), .val (.int (1 : Int32)), .val (.int v1_175), .val (.int v1_176), .val (.int v1_177), .val (.ref b178), .val (.ref b181), .val (.ref b185), .val (.int (if (0 : Int32) = (1 : Int32) then (1 : Int32) else 0)), .val (.int (1 : Int32)), .val (.int (if v1_190 = (1 : Int32) then (1 : Int32) else 0)), .val (.int (if v1_190 = (1 : Int32) then (1 : Int32) else 0))] [(.int (1 : Int32)), (.int (if v1_190 = (1 : Int32) then (1 : Int32) else 0))]))
      refine Go.step (fun _ k => XS.icmpNo X_195.here hx rfl (hb hby at_183) rfl (teq ((if_pos (hv.mpr z0)) : (if v1_190 = (1 : Int32) then (1 : Int32) else 0) = (1 : Int32))).2 k) ?_
      show Go p e below _ (T_195.setTop (mkF m 186 #[.val (.int p0), .val (.int p1), .val (.int p2), .val (.int p3), .val (.int (1 : Int32)), .val (.int v1_175), .val (.int v1_176), .val (.int v1_177), .val (.ref b178), .val (.ref b181), .val (.ref b185), .val (.int (if (0 : Int32) = (1 : Int32) then (1 : Int32) else 0)), .val (.int (1 : Int32)), .val (.int (if v1_190 = (1 : Int32) then (1 : Int32) else 0)), .val (.int (if v1_190 = (1 : Int32) then (1 : Int32) else 0))] []))
      refine Go.step (fun _ k => XS.iload X_195.here hx rfl (hb hby at_186) rfl  k) ?_
      show Go p e below _ (T_195.setTop (mkF m 188 #[.val (.int p0), .val (.int p1), .val (.int p2), .val (.int p3), .val (.int (1 : Int32)), .val (.int v1_175), .val (.int v1_176), .val (.int v1_177), .val (.ref b178), .val (.ref b181), .val (.ref b185), .val (.int (if (0 : Int32) = (1 : Int32) then (1 : Int32) else 0)), .val (.int (1 : Int32)), .val (.int (if v1_190 = (1 : Int32) then (1 : Int32) else 0)), .val (.int (if v1_190 = (1 : Int32) then (1 : Int32) else 0))] [(.int (if v1_190 = (1 : Int32) then (1 : Int32) else 0))]))
      refine Go.step (fun _ k => XS.iload X_195.here hx rfl (hb hby at_188) rfl  k) ?_
      show Go p e below _ (T_195.setTop (mkF m 190 #[.val (.int p0), .val (.int p1), .val (.int p2), .val (.int p3), .val (.int (1 : Int32)), .val (.int v1_175), .val (.int v1_176), .val (.int v1_177), .val (.ref b178), .val (.ref b181), .val (.ref b185), .val (.int (if (0 : Int32) = (1 : Int32) then (1 : Int32) else 0)), .val (.int (1 : Int32)), .val (.int (if v1_190 = (1 : Int32) then (1 : Int32) else 0)), .val (.int (if v1_190 = (1 : Int32) then (1 : Int32) else 0))] [(.int (if v1_190 = (1 : Int32) then (1 : Int32) else 0)), (.int (if v1_190 = (1 : Int32) then (1 : Int32) else 0))]))
      refine Go.step (fun _ k => XS.icmpNo X_195.here hx rfl (hb hby at_190) rfl (teq (rfl : (if v1_190 = (1 : Int32) then (1 : Int32) else 0) = (if v1_190 = (1 : Int32) then (1 : Int32) else 0))).2 k) ?_
      show Go p e below _ (T_195.setTop (mkF m 193 #[.val (.int p0), .val (.int p1), .val (.int p2), .val (.int p3), .val (.int (1 : Int32)), .val (.int v1_175), .val (.int v1_176), .val (.int v1_177), .val (.ref b178), .val (.ref b181), .val (.ref b185), .val (.int (if (0 : Int32) = (1 : Int32) then (1 : Int32) else 0)), .val (.int (1 : Int32)), .val (.int (if v1_190 = (1 : Int32) then (1 : Int32) else 0)), .val (.int (if v1_190 = (1 : Int32) then (1 : Int32) else 0))] []))
      refine Go.step (fun _ k => XS.iconst X_195.here hx rfl (hb hby at_193) k) ?_
      show Go p e below _ (T_195.setTop (mkF m 194 #[.val (.int p0), .val (.int p1), .val (.int p2), .val (.int p3), .val (.int (1 : Int32)), .val (.int v1_175), .val (.int v1_176), .val (.int v1_177), .val (.ref b178), .val (.ref b181), .val (.ref b185), .val (.int (if (0 : Int32) = (1 : Int32) then (1 : Int32) else 0)), .val (.int (1 : Int32)), .val (.int (if v1_190 = (1 : Int32) then (1 : Int32) else 0)), .val (.int (if v1_190 = (1 : Int32) then (1 : Int32) else 0))] [(.int (1 : Int32))]))
      refine Go.step (fun _ k => XS.goto X_195.here hx rfl (pc0 := 194) (pc' := 198) rfl (hb hby at_194) (by decide) (by decide) k) ?_
      show Go p e below _ (T_195.setTop (mkF m 198 #[.val (.int p0), .val (.int p1), .val (.int p2), .val (.int p3), .val (.int (1 : Int32)), .val (.int v1_175), .val (.int v1_176), .val (.int v1_177), .val (.ref b178), .val (.ref b181), .val (.ref b185), .val (.int (if (0 : Int32) = (1 : Int32) then (1 : Int32) else 0)), .val (.int (1 : Int32)), .val (.int (if v1_190 = (1 : Int32) then (1 : Int32) else 0)), .val (.int (if v1_190 = (1 : Int32) then (1 : Int32) else 0))] [(.int (1 : Int32))]))
      exact Go.retVW X_195 e_195 hS0 (Nat.le_trans hk0 (Nat.le_trans le_178 (Nat.le_trans le_179 (Nat.le_trans le_181 (Nat.le_trans le_184 (Nat.le_trans le_185 (Nat.le_trans le_186 le_190))))))) hZ hEL hh0 CR_190 hx hlk hret rfl (Or.inl ⟨rfl, Or.inr (Or.inl rfl), _, rfl⟩) (hb hby at_198) (by decide) (by decide) (by rw [e_195]; exact ⟨rfl, N_195⟩)
    · skip
      refine Go.step (fun _ k => XS.ifYes X_191.here hx rfl (pc0 := 127) (pc' := 162) rfl (hb hby at_127) rfl ((if0 _ _).trans (teq (b01_eq z0)).1) (by decide) (by decide) k) ?_
      show Go p e below _ (T_191.setTop (mkF m 162 #[.val (.int p0), .val (.int p1), .val (.int p2), .val (.int p3), .val (.int (1 : Int32)), .val (.int v1_175), .val (.int v1_176), .val (.int v1_177), .val (.ref b178), .val (.ref b181), .val (.ref b185), .val (.int (if (0 : Int32) = (1 : Int32) then (1 : Int32) else 0)), .unset, .unset, .unset] []))
      refine Go.step (fun _ k => XS.iconst X_191.here hx rfl (hb hby at_162) k) ?_
      show Go p e below _ (T_191.setTop (mkF m 163 #[.val (.int p0), .val (.int p1), .val (.int p2), .val (.int p3), .val (.int (1 : Int32)), .val (.int v1_175), .val (.int v1_176), .val (.int v1_177), .val (.ref b178), .val (.ref b181), .val (.ref b185), .val (.int (if (0 : Int32) = (1 : Int32) then (1 : Int32) else 0)), .unset, .unset, .unset] [(.int (0 : Int32))]))
      refine Go.step (fun _ k => XS.istore X_191.here hx rfl (hb hby at_163) rfl (l' := #[.val (.int p0), .val (.int p1), .val (.int p2), .val (.int p3), .val (.int (1 : Int32)), .val (.int v1_175), .val (.int v1_176), .val (.int v1_177), .val (.ref b178), .val (.ref b181), .val (.ref b185), .val (.int (if (0 : Int32) = (1 : Int32) then (1 : Int32) else 0)), .val (.int (0 : Int32)), .unset, .unset]) rfl k) ?_
      show Go p e below _ (T_191.setTop (mkF m 165 #[.val (.int p0), .val (.int p1), .val (.int p2), .val (.int p3), .val (.int (1 : Int32)), .val (.int v1_175), .val (.int v1_176), .val (.int v1_177), .val (.ref b178), .val (.ref b181), .val (.ref b185), .val (.int (if (0 : Int32) = (1 : Int32) then (1 : Int32) else 0)), .val (.int (0 : Int32)), .unset, .unset] []))
      refine Go.step (fun _ k => XS.aload X_191.here hx rfl (hb hby at_165) rfl rfl k) ?_
      show Go p e below _ (T_191.setTop (mkF m 167 #[.val (.int p0), .val (.int p1), .val (.int p2), .val (.int p3), .val (.int (1 : Int32)), .val (.int v1_175), .val (.int v1_176), .val (.int v1_177), .val (.ref b178), .val (.ref b181), .val (.ref b185), .val (.int (if (0 : Int32) = (1 : Int32) then (1 : Int32) else 0)), .val (.int (0 : Int32)), .unset, .unset] [(.ref b185)]))
      have f196 : Str Z (T_184.heap).size T_190.heap b181 ([v1_175] : List Int32) := (f187.keep K_190 (allS (Nat.le_trans (Nat.le_refl _) ge_185) all0))
      have f198 : Exa Z T_190.heap b185 "com/example/sigyn/sigyn/sip/SipScanner" := (f189.keep K_190)
      obtain ⟨v_197, T_197, L_197, X_197, hQ_197, st_197⟩ := goV X_191 hx hZ (y := ({ cls := "com/example/sigyn/sigyn/sip/SipScanner", name := "atEnd", desc := "()Z" } : Jvm.MethodName)) (z := ({ cls := "com/example/sigyn/sigyn/sip/SipScanner", name := "atEnd", desc := "()Z" } : Jvm.MethodName)) hown (wd_35 hw) (wd_36 hw) (notFace_of_selects (args := #[]) (mvT hZ (wd_38 hw))) (wd_38 hw) (wd_37 hw) (by decide) (backOf (W := 0) (rm_atEnd l Z a0 hw zc vfm (b185) (v1_190) (b181) (([v1_175] : List Int32)) ((1 : Int32)) T_190.heap n0 (Nat.le_trans Z0 KP_190.1) u0_190 u1_190 (f196.mono (Nat.le_trans le_185 (Nat.le_trans le_186 le_190))) rfl hSt O_190) hZ (wd_39 hw) (wd_28 hw) (by decide) (by decide)) e_191 f198 (g := (mkF m 167 #[.val (.int p0), .val (.int p1), .val (.int p2), .val (.int p3), .val (.int (1 : Int32)), .val (.int v1_175), .val (.int v1_176), .val (.int v1_177), .val (.ref b178), .val (.ref b181), .val (.ref b185), .val (.int (if (0 : Int32) = (1 : Int32) then (1 : Int32) else 0)), .val (.int (0 : Int32)), .unset, .unset] [(.ref b185)])) rfl (by rw [hml]; rfl) (argsL := []) (rest := []) rfl (lenOf pd_6 rfl) rfl (by show 2 * 0 + _ ≤ _; exact Nat.le_of_eq rfl) (hb hby at_167) (by decide) (by decide)
      obtain ⟨rfl, Nq_197, e_197⟩ := hQ_197
      have N_197 := Fr.app N_191 Nq_197
      refine Go.step st_197 ?_
      show Go p e below _ (T_197.setTop (mkF m 170 #[.val (.int p0), .val (.int p1), .val (.int p2), .val (.int p3), .val (.int (1 : Int32)), .val (.int v1_175), .val (.int v1_176), .val (.int v1_177), .val (.ref b178), .val (.ref b181), .val (.ref b185), .val (.int (if (0 : Int32) = (1 : Int32) then (1 : Int32) else 0)), .val (.int (0 : Int32)), .unset, .unset] [(.int (if v1_190 = (1 : Int32) then (1 : Int32) else 0))]))
      refine Go.step (fun _ k => XS.istore X_197.here hx rfl (hb hby at_170) rfl (l' := #[.val (.int p0), .val (.int p1), .val (.int p2), .val (.int p3), .val (.int (1 : Int32)), .val (.int v1_175), .val (.int v1_176), .val (.int v1_177), .val (.ref b178), .val (.ref b181), .val (.ref b185), .val (.int (if (0 : Int32) = (1 : Int32) then (1 : Int32) else 0)), .val (.int (0 : Int32)), .val (.int (if v1_190 = (1 : Int32) then (1 : Int32) else 0)), .unset]) rfl k) ?_
      show Go p e below _ (T_197.setTop (mkF m 172 #[.val (.int p0), .val (.int p1), .val (.int p2), .val (.int p3), .val (.int (1 : Int32)), .val (.int v1_175), .val (.int v1_176), .val (.int v1_177), .val (.ref b178), .val (.ref b181), .val (.ref b185), .val (.int (if (0 : Int32) = (1 : Int32) then (1 : Int32) else 0)), .val (.int (0 : Int32)), .val (.int (if v1_190 = (1 : Int32) then (1 : Int32) else 0)), .unset] []))
      refine Go.step (fun _ k => XS.aload X_197.here hx rfl (hb hby at_172) rfl rfl k) ?_
      show Go p e below _ (T_197.setTop (mkF m 174 #[.val (.int p0), .val (.int p1), .val (.int p2), .val (.int p3), .val (.int (1 : Int32)), .val (.int v1_175), .val (.int v1_176), .val (.int v1_177), .val (.ref b178), .val (.ref b181), .val (.ref b185), .val (.int (if (0 : Int32) = (1 : Int32) then (1 : Int32) else 0)), .val (.int (0 : Int32)), .val (.int (if v1_190 = (1 : Int32) then (1 : Int32) else 0)), .unset] [(.ref b185)]))
      obtain ⟨v_199, T_199, L_199, X_199, hQ_199, st_199⟩ := goV X_197 hx hZ (y := ({ cls := "com/example/sigyn/sigyn/sip/SipScanner", name := "atEnd", desc := "()Z" } : Jvm.MethodName)) (z := ({ cls := "com/example/sigyn/sigyn/sip/SipScanner", name := "atEnd", desc := "()Z" } : Jvm.MethodName)) hown (wd_35 hw) (wd_36 hw) (notFace_of_selects (args := #[]) (mvT hZ (wd_38 hw))) (wd_38 hw) (wd_37 hw) (by decide) (backOf (W := 0) (rm_atEnd l Z a0 hw zc vfm (b185) (v1_190) (b181) (([v1_175] : List Int32)) ((1 : Int32)) T_190.heap n0 (Nat.le_trans Z0 KP_190.1) u0_190 u1_190 (f196.mono (Nat.le_trans le_185 (Nat.le_trans le_186 le_190))) rfl hSt O_190) hZ (wd_39 hw) (wd_28 hw) (by decide) (by decide)) e_197 f198 (g := (mkF m 174 #[.val (.int p0), .val (.int p1), .val (.int p2), .val (.int p3), .val (.int (1 : Int32)), .val (.int v1_175), .val (.int v1_176), .val (.int v1_177), .val (.ref b178), .val (.ref b181), .val (.ref b185), .val (.int (if (0 : Int32) = (1 : Int32) then (1 : Int32) else 0)), .val (.int (0 : Int32)), .val (.int (if v1_190 = (1 : Int32) then (1 : Int32) else 0)), .unset] [(.ref b185)])) rfl (by rw [hml]; rfl) (argsL := []) (rest := []) rfl (lenOf pd_6 rfl) rfl (by show 2 * 0 + _ ≤ _; exact Nat.le_of_eq rfl) (hb hby at_174) (by decide) (by decide)
      obtain ⟨rfl, Nq_199, e_199⟩ := hQ_199
      have N_199 := Fr.app N_197 Nq_199
      refine Go.step st_199 ?_
      show Go p e below _ (T_199.setTop (mkF m 177 #[.val (.int p0), .val (.int p1), .val (.int p2), .val (.int p3), .val (.int (1 : Int32)), .val (.int v1_175), .val (.int v1_176), .val (.int v1_177), .val (.ref b178), .val (.ref b181), .val (.ref b185), .val (.int (if (0 : Int32) = (1 : Int32) then (1 : Int32) else 0)), .val (.int (0 : Int32)), .val (.int (if v1_190 = (1 : Int32) then (1 : Int32) else 0)), .unset] [(.int (if v1_190 = (1 : Int32) then (1 : Int32) else 0))]))
      refine Go.step (fun _ k => XS.istore X_199.here hx rfl (hb hby at_177) rfl (l' := #[.val (.int p0), .val (.int p1), .val (.int p2), .val (.int p3), .val (.int (1 : Int32)), .val (.int v1_175), .val (.int v1_176), .val (.int v1_177), .val (.ref b178), .val (.ref b181), .val (.ref b185), .val (.int (if (0 : Int32) = (1 : Int32) then (1 : Int32) else 0)), .val (.int (0 : Int32)), .val (.int (if v1_190 = (1 : Int32) then (1 : Int32) else 0)), .val (.int (if v1_190 = (1 : Int32) then (1 : Int32) else 0))]) rfl k) ?_
      show Go p e below _ (T_199.setTop (mkF m 179 #[.val (.int p0), .val (.int p1), .val (.int p2), .val (.int p3), .val (.int (1 : Int32)), .val (.int v1_175), .val (.int v1_176), .val (.int v1_177), .val (.ref b178), .val (.ref b181), .val (.ref b185), .val (.int (if (0 : Int32) = (1 : Int32) then (1 : Int32) else 0)), .val (.int (0 : Int32)), .val (.int (if v1_190 = (1 : Int32) then (1 : Int32) else 0)), .val (.int (if v1_190 = (1 : Int32) then (1 : Int32) else 0))] []))
      refine Go.step (fun _ k => XS.iload X_199.here hx rfl (hb hby at_179) rfl  k) ?_
      show Go p e below _ (T_199.setTop (mkF m 181 #[.val (.int p0), .val (.int p1), .val (.int p2), .val (.int p3), .val (.int (1 : Int32)), .val (.int v1_175), .val (.int v1_176), .val (.int v1_177), .val (.ref b178), .val (.ref b181), .val (.ref b185), .val (.int (if (0 : Int32) = (1 : Int32) then (1 : Int32) else 0)), .val (.int (0 : Int32)), .val (.int (if v1_190 = (1 : Int32) then (1 : Int32) else 0)), .val (.int (if v1_190 = (1 : Int32) then (1 : Int32) else 0))] [(.int (if v1_190 = (1 : Int32) then (1 : Int32) else 0))]))
      refine Go.step (fun _ k => XS.iload X_199.here hx rfl (hb hby at_181) rfl  k) ?_
      show Go p e below _ (T_199.setTop (mkF m 183 #[.val (.int p0), .val (.int p1), .val (.int p2), .val (.int p3), .val (.int (1 : Int32)), .val (.int v1_175), .val (.int v1_176), .val (.int v1_177), .val (.ref b178), .val (.ref b181), .val (.ref b185), .val (.int (if (0 : Int32) = (1 : Int32) then (1 : Int32) else 0)), .val (.int (0 : Int32)), .val (.int (if v1_190 = (1 : Int32) then (1 : Int32) else 0)), .val (.int (if v1_190 = (1 : Int32) then (1 : Int32) else 0))] [(.int (0 : Int32)), (.int (if v1_190 = (1 : Int32) then (1 : Int32) else 0))]))
      refine Go.step (fun _ k => XS.icmpNo X_199.here hx rfl (hb hby at_183) rfl (teq ((if_neg (fun q => absurd (hv.mp q) z0)) : (if v1_190 = (1 : Int32) then (1 : Int32) else 0) = (0 : Int32))).2 k) ?_
      show Go p e below _ (T_199.setTop (mkF m 186 #[.val (.int p0), .val (.int p1), .val (.int p2), .val (.int p3), .val (.int (1 : Int32)), .val (.int v1_175), .val (.int v1_176), .val (.int v1_177), .val (.ref b178), .val (.ref b181), .val (.ref b185), .val (.int (if (0 : Int32) = (1 : Int32) then (1 : Int32) else 0)), .val (.int (0 : Int32)), .val (.int (if v1_190 = (1 : Int32) then (1 : Int32) else 0)), .val (.int (if v1_190 = (1 : Int32) then (1 : Int32) else 0))] []))
      refine Go.step (fun _ k => XS.iload X_199.here hx rfl (hb hby at_186) rfl  k) ?_
      show Go p e below _ (T_199.setTop (mkF m 188 #[.val (.int p0), .val (.int p1), .val (.int p2), .val (.int p3), .val (.int (1 : Int32)), .val (.int v1_175), .val (.int v1_176), .val (.int v1_177), .val (.ref b178), .val (.ref b181), .val (.ref b185), .val (.int (if (0 : Int32) = (1 : Int32) then (1 : Int32) else 0)), .val (.int (0 : Int32)), .val (.int (if v1_190 = (1 : Int32) then (1 : Int32) else 0)), .val (.int (if v1_190 = (1 : Int32) then (1 : Int32) else 0))] [(.int (if v1_190 = (1 : Int32) then (1 : Int32) else 0))]))
      refine Go.step (fun _ k => XS.iload X_199.here hx rfl (hb hby at_188) rfl  k) ?_
      show Go p e below _ (T_199.setTop (mkF m 190 #[.val (.int p0), .val (.int p1), .val (.int p2), .val (.int p3), .val (.int (1 : Int32)), .val (.int v1_175), .val (.int v1_176), .val (.int v1_177), .val (.ref b178), .val (.ref b181), .val (.ref b185), .val (.int (if (0 : Int32) = (1 : Int32) then (1 : Int32) else 0)), .val (.int (0 : Int32)), .val (.int (if v1_190 = (1 : Int32) then (1 : Int32) else 0)), .val (.int (if v1_190 = (1 : Int32) then (1 : Int32) else 0))] [(.int (if v1_190 = (1 : Int32) then (1 : Int32) else 0)), (.int (if v1_190 = (1 : Int32) then (1 : Int32) else 0))]))
      refine Go.step (fun _ k => XS.icmpNo X_199.here hx rfl (hb hby at_190) rfl (teq (rfl : (if v1_190 = (1 : Int32) then (1 : Int32) else 0) = (if v1_190 = (1 : Int32) then (1 : Int32) else 0))).2 k) ?_
      show Go p e below _ (T_199.setTop (mkF m 193 #[.val (.int p0), .val (.int p1), .val (.int p2), .val (.int p3), .val (.int (1 : Int32)), .val (.int v1_175), .val (.int v1_176), .val (.int v1_177), .val (.ref b178), .val (.ref b181), .val (.ref b185), .val (.int (if (0 : Int32) = (1 : Int32) then (1 : Int32) else 0)), .val (.int (0 : Int32)), .val (.int (if v1_190 = (1 : Int32) then (1 : Int32) else 0)), .val (.int (if v1_190 = (1 : Int32) then (1 : Int32) else 0))] []))
      refine Go.step (fun _ k => XS.iconst X_199.here hx rfl (hb hby at_193) k) ?_
      show Go p e below _ (T_199.setTop (mkF m 194 #[.val (.int p0), .val (.int p1), .val (.int p2), .val (.int p3), .val (.int (1 : Int32)), .val (.int v1_175), .val (.int v1_176), .val (.int v1_177), .val (.ref b178), .val (.ref b181), .val (.ref b185), .val (.int (if (0 : Int32) = (1 : Int32) then (1 : Int32) else 0)), .val (.int (0 : Int32)), .val (.int (if v1_190 = (1 : Int32) then (1 : Int32) else 0)), .val (.int (if v1_190 = (1 : Int32) then (1 : Int32) else 0))] [(.int (1 : Int32))]))
      refine Go.step (fun _ k => XS.goto X_199.here hx rfl (pc0 := 194) (pc' := 198) rfl (hb hby at_194) (by decide) (by decide) k) ?_
      show Go p e below _ (T_199.setTop (mkF m 198 #[.val (.int p0), .val (.int p1), .val (.int p2), .val (.int p3), .val (.int (1 : Int32)), .val (.int v1_175), .val (.int v1_176), .val (.int v1_177), .val (.ref b178), .val (.ref b181), .val (.ref b185), .val (.int (if (0 : Int32) = (1 : Int32) then (1 : Int32) else 0)), .val (.int (0 : Int32)), .val (.int (if v1_190 = (1 : Int32) then (1 : Int32) else 0)), .val (.int (if v1_190 = (1 : Int32) then (1 : Int32) else 0))] [(.int (1 : Int32))]))
      exact Go.retVW X_199 e_199 hS0 (Nat.le_trans hk0 (Nat.le_trans le_178 (Nat.le_trans le_179 (Nat.le_trans le_181 (Nat.le_trans le_184 (Nat.le_trans le_185 (Nat.le_trans le_186 le_190))))))) hZ hEL hh0 CR_190 hx hlk hret rfl (Or.inl ⟨rfl, Or.inr (Or.inl rfl), _, rfl⟩) (hb hby at_198) (by decide) (by decide) (by rw [e_199]; exact ⟨rfl, N_199⟩)
  · skip
    show Go p e below _ (s₁.setTop (mkF m 5 #[.val (.int p0), .val (.int p1), .val (.int p2), .val (.int p3), .val (.int (2 : Int32)), .unset, .unset, .unset, .unset, .unset, .unset, .unset, .unset, .unset, .unset] []))
    refine Go.step (fun _ k => XS.iloadN X0.here hx rfl (hb hby at_5) rfl  k) ?_
    show Go p e below _ (s₁.setTop (mkF m 6 #[.val (.int p0), .val (.int p1), .val (.int p2), .val (.int p3), .val (.int (2 : Int32)), .unset, .unset, .unset, .unset, .unset, .unset, .unset, .unset, .unset, .unset] [(.int p1)]))
    obtain ⟨v_200, T_200, L_200, X_200, hQ_200, st_200⟩ := goS X0 hx hZ (y := ({ cls := "com/example/sigyn/sigyn/sip/SipScannerAtEndPinLaw", name := "draw", desc := "(I)C" } : Jvm.MethodName)) hown (wd_0 hw) (wd_1 hw) (wd_2 hw) (wd_3 hw) (by decide) (backOf (W := 0) (rm_draw l Z a0 hw zc vfm (p1) h0 n0 (Nat.le_trans Z0 KP0.1) hSt hO) hZ (wd_3 hw) (wd_2 hw) (by decide) (by decide)) e0 (g := (mkF m 6 #[.val (.int p0), .val (.int p1), .val (.int p2), .val (.int p3), .val (.int (2 : Int32)), .unset, .unset, .unset, .unset, .unset, .unset, .unset, .unset, .unset, .unset] [(.int p1)])) rfl (by rw [hml]; rfl) (argsL := [(.int p1)]) (rest := []) rfl (lenOf pd_2 rfl) rfl (by show 2 * 0 + _ ≤ _; exact Nat.le_of_eq rfl) (hb hby at_6) (by decide) (by decide)
    obtain ⟨v1_200, rfl, Nq_200, e_200, u0_200⟩ := hQ_200
    have N_200 := Fr.app N0 Nq_200
    have hlat_200 := u0_200
    refine Go.step st_200 ?_
    show Go p e below _ (T_200.setTop (mkF m 9 #[.val (.int p0), .val (.int p1), .val (.int p2), .val (.int p3), .val (.int (2 : Int32)), .unset, .unset, .unset, .unset, .unset, .unset, .unset, .unset, .unset, .unset] [(.int v1_200)]))
    refine Go.step (fun _ k => XS.istore X_200.here hx rfl (hb hby at_9) rfl (l' := #[.val (.int p0), .val (.int p1), .val (.int p2), .val (.int p3), .val (.int (2 : Int32)), .val (.int v1_200), .unset, .unset, .unset, .unset, .unset, .unset, .unset, .unset, .unset]) rfl k) ?_
    show Go p e below _ (T_200.setTop (mkF m 11 #[.val (.int p0), .val (.int p1), .val (.int p2), .val (.int p3), .val (.int (2 : Int32)), .val (.int v1_200), .unset, .unset, .unset, .unset, .unset, .unset, .unset, .unset, .unset] []))
    refine Go.step (fun _ k => XS.iloadN X_200.here hx rfl (hb hby at_11) rfl  k) ?_
    show Go p e below _ (T_200.setTop (mkF m 12 #[.val (.int p0), .val (.int p1), .val (.int p2), .val (.int p3), .val (.int (2 : Int32)), .val (.int v1_200), .unset, .unset, .unset, .unset, .unset, .unset, .unset, .unset, .unset] [(.int p2)]))
    obtain ⟨v_201, T_201, L_201, X_201, hQ_201, st_201⟩ := goS X_200 hx hZ (y := ({ cls := "com/example/sigyn/sigyn/sip/SipScannerAtEndPinLaw", name := "draw", desc := "(I)C" } : Jvm.MethodName)) hown (wd_0 hw) (wd_1 hw) (wd_2 hw) (wd_3 hw) (by decide) (backOf (W := 0) (rm_draw l Z a0 hw zc vfm (p2) h0 n0 (Nat.le_trans Z0 KP0.1) hSt hO) hZ (wd_3 hw) (wd_2 hw) (by decide) (by decide)) e_200 (g := (mkF m 12 #[.val (.int p0), .val (.int p1), .val (.int p2), .val (.int p3), .val (.int (2 : Int32)), .val (.int v1_200), .unset, .unset, .unset, .unset, .unset, .unset, .unset, .unset, .unset] [(.int p2)])) rfl (by rw [hml]; rfl) (argsL := [(.int p2)]) (rest := []) rfl (lenOf pd_2 rfl) rfl (by show 2 * 0 + _ ≤ _; exact Nat.le_of_eq rfl) (hb hby at_12) (by decide) (by decide)
    obtain ⟨v1_201, rfl, Nq_201, e_201, u0_201⟩ := hQ_201
    have N_201 := Fr.app N_200 Nq_201
    have hlat_201 := u0_201
    refine Go.step st_201 ?_
    show Go p e below _ (T_201.setTop (mkF m 15 #[.val (.int p0), .val (.int p1), .val (.int p2), .val (.int p3), .val (.int (2 : Int32)), .val (.int v1_200), .unset, .unset, .unset, .unset, .unset, .unset, .unset, .unset, .unset] [(.int v1_201)]))
    refine Go.step (fun _ k => XS.istore X_201.here hx rfl (hb hby at_15) rfl (l' := #[.val (.int p0), .val (.int p1), .val (.int p2), .val (.int p3), .val (.int (2 : Int32)), .val (.int v1_200), .val (.int v1_201), .unset, .unset, .unset, .unset, .unset, .unset, .unset, .unset]) rfl k) ?_
    show Go p e below _ (T_201.setTop (mkF m 17 #[.val (.int p0), .val (.int p1), .val (.int p2), .val (.int p3), .val (.int (2 : Int32)), .val (.int v1_200), .val (.int v1_201), .unset, .unset, .unset, .unset, .unset, .unset, .unset, .unset] []))
    refine Go.step (fun _ k => XS.iloadN X_201.here hx rfl (hb hby at_17) rfl  k) ?_
    show Go p e below _ (T_201.setTop (mkF m 18 #[.val (.int p0), .val (.int p1), .val (.int p2), .val (.int p3), .val (.int (2 : Int32)), .val (.int v1_200), .val (.int v1_201), .unset, .unset, .unset, .unset, .unset, .unset, .unset, .unset] [(.int p3)]))
    obtain ⟨v_202, T_202, L_202, X_202, hQ_202, st_202⟩ := goS X_201 hx hZ (y := ({ cls := "com/example/sigyn/sigyn/sip/SipScannerAtEndPinLaw", name := "draw", desc := "(I)C" } : Jvm.MethodName)) hown (wd_0 hw) (wd_1 hw) (wd_2 hw) (wd_3 hw) (by decide) (backOf (W := 0) (rm_draw l Z a0 hw zc vfm (p3) h0 n0 (Nat.le_trans Z0 KP0.1) hSt hO) hZ (wd_3 hw) (wd_2 hw) (by decide) (by decide)) e_201 (g := (mkF m 18 #[.val (.int p0), .val (.int p1), .val (.int p2), .val (.int p3), .val (.int (2 : Int32)), .val (.int v1_200), .val (.int v1_201), .unset, .unset, .unset, .unset, .unset, .unset, .unset, .unset] [(.int p3)])) rfl (by rw [hml]; rfl) (argsL := [(.int p3)]) (rest := []) rfl (lenOf pd_2 rfl) rfl (by show 2 * 0 + _ ≤ _; exact Nat.le_of_eq rfl) (hb hby at_18) (by decide) (by decide)
    obtain ⟨v1_202, rfl, Nq_202, e_202, u0_202⟩ := hQ_202
    have N_202 := Fr.app N_201 Nq_202
    have hlat_202 := u0_202
    refine Go.step st_202 ?_
    show Go p e below _ (T_202.setTop (mkF m 21 #[.val (.int p0), .val (.int p1), .val (.int p2), .val (.int p3), .val (.int (2 : Int32)), .val (.int v1_200), .val (.int v1_201), .unset, .unset, .unset, .unset, .unset, .unset, .unset, .unset] [(.int v1_202)]))
    refine Go.step (fun _ k => XS.istore X_202.here hx rfl (hb hby at_21) rfl (l' := #[.val (.int p0), .val (.int p1), .val (.int p2), .val (.int p3), .val (.int (2 : Int32)), .val (.int v1_200), .val (.int v1_201), .val (.int v1_202), .unset, .unset, .unset, .unset, .unset, .unset, .unset]) rfl k) ?_
    show Go p e below _ (T_202.setTop (mkF m 23 #[.val (.int p0), .val (.int p1), .val (.int p2), .val (.int p3), .val (.int (2 : Int32)), .val (.int v1_200), .val (.int v1_201), .val (.int v1_202), .unset, .unset, .unset, .unset, .unset, .unset, .unset] []))
    refine Go.step (fun _ k => XS.iload X_202.here hx rfl (hb hby at_23) rfl  k) ?_
    show Go p e below _ (T_202.setTop (mkF m 25 #[.val (.int p0), .val (.int p1), .val (.int p2), .val (.int p3), .val (.int (2 : Int32)), .val (.int v1_200), .val (.int v1_201), .val (.int v1_202), .unset, .unset, .unset, .unset, .unset, .unset, .unset] [(.int (2 : Int32))]))
    obtain ⟨T_203, h_203, k_203, X_203, e_203, E_203, A_203, st_203⟩ := newP X_202 hx hZ (aty := .char) (wd_4 hw) e_202 (g := (mkF m 25 #[.val (.int p0), .val (.int p1), .val (.int p2), .val (.int p3), .val (.int (2 : Int32)), .val (.int v1_200), .val (.int v1_201), .val (.int v1_202), .unset, .unset, .unset, .unset, .unset, .unset, .unset] [(.int (2 : Int32))])) rfl (hb hby at_25) rfl (by decide) (cap := 2) (by decide) (by decide) (by decide) (by decide)
    obtain ⟨b203, q_203⟩ : ∃ z, z = h0.size := ⟨_, rfl⟩
    rw [← q_203] at A_203 st_203
    refine Go.step st_203 ?_
    have C_203 := CHr.ext E_203 CV0
    have CR_203 := CHr.trans (CHr.refl CV0) C_203
    have le_203 : h0.size ≤ h_203.size := E_203.1
    have KP_203 := KP0.ext E_203
    have O_203 := hO.ext E_203
    have ge_203 : h0.size ≤ b203 := Nat.le_of_eq q_203.symm
    have sz_b203 : h0.size ≤ b203 := Nat.le_trans (Nat.le_refl _) ge_203
    have g_b203 : n0 ≤ b203 := Nat.le_trans Z0 sz_b203
    have V_203 : Arv Z h_203 b203 k_203 .char (2 : Int32) [(.int (0 : Int32)), (.int (0 : Int32))] (.int (0 : Int32)) := (Arv.new A_203 (by decide)).pad (pad_rep [] (.int (0 : Int32)) 2)
    have Sf_b203 := Safe.ext E_203 CV0 (Safe.new ge_203)
    show Go p e below _ (T_203.setTop (mkF m 27 #[.val (.int p0), .val (.int p1), .val (.int p2), .val (.int p3), .val (.int (2 : Int32)), .val (.int v1_200), .val (.int v1_201), .val (.int v1_202), .unset, .unset, .unset, .unset, .unset, .unset, .unset] [(.ref b203)]))
    refine Go.step (fun _ k => XS.astore X_203.here hx rfl (hb hby at_27) rfl rfl (l' := #[.val (.int p0), .val (.int p1), .val (.int p2), .val (.int p3), .val (.int (2 : Int32)), .val (.int v1_200), .val (.int v1_201), .val (.int v1_202), .val (.ref b203), .unset, .unset, .unset, .unset, .unset, .unset]) rfl k) ?_
    show Go p e below _ (T_203.setTop (mkF m 29 #[.val (.int p0), .val (.int p1), .val (.int p2), .val (.int p3), .val (.int (2 : Int32)), .val (.int v1_200), .val (.int v1_201), .val (.int v1_202), .val (.ref b203), .unset, .unset, .unset, .unset, .unset, .unset] []))
    refine Go.step (fun _ k => XS.iload X_203.here hx rfl (hb hby at_29) rfl  k) ?_
    show Go p e below _ (T_203.setTop (mkF m 31 #[.val (.int p0), .val (.int p1), .val (.int p2), .val (.int p3), .val (.int (2 : Int32)), .val (.int v1_200), .val (.int v1_201), .val (.int v1_202), .val (.ref b203), .unset, .unset, .unset, .unset, .unset, .unset] [(.int (2 : Int32))]))
    refine Go.step (fun _ k => XS.ifNo X_203.here hx rfl (hb hby at_31) rfl ((if0 _ _).trans (tlt ((by decide) : (0 : Int32) < (2 : Int32))).2.2.2) k) ?_
    show Go p e below _ (T_203.setTop (mkF m 34 #[.val (.int p0), .val (.int p1), .val (.int p2), .val (.int p3), .val (.int (2 : Int32)), .val (.int v1_200), .val (.int v1_201), .val (.int v1_202), .val (.ref b203), .unset, .unset, .unset, .unset, .unset, .unset] []))
    refine Go.step (fun _ k => XS.aload X_203.here hx rfl (hb hby at_34) rfl rfl k) ?_
    show Go p e below _ (T_203.setTop (mkF m 36 #[.val (.int p0), .val (.int p1), .val (.int p2), .val (.int p3), .val (.int (2 : Int32)), .val (.int v1_200), .val (.int v1_201), .val (.int v1_202), .val (.ref b203), .unset, .unset, .unset, .unset, .unset, .unset] [(.ref b203)]))
    refine Go.step (fun _ k => XS.iconst X_203.here hx rfl (hb hby at_36) k) ?_
    show Go p e below _ (T_203.setTop (mkF m 37 #[.val (.int p0), .val (.int p1), .val (.int p2), .val (.int p3), .val (.int (2 : Int32)), .val (.int v1_200), .val (.int v1_201), .val (.int v1_202), .val (.ref b203), .unset, .unset, .unset, .unset, .unset, .unset] [(.int (0 : Int32)), (.ref b203)]))
    refine Go.step (fun _ k => XS.iload X_203.here hx rfl (hb hby at_37) rfl  k) ?_
    show Go p e below _ (T_203.setTop (mkF m 39 #[.val (.int p0), .val (.int p1), .val (.int p2), .val (.int p3), .val (.int (2 : Int32)), .val (.int v1_200), .val (.int v1_201), .val (.int v1_202), .val (.ref b203), .unset, .unset, .unset, .unset, .unset, .unset] [(.int v1_200), (.int (0 : Int32)), (.ref b203)]))
    have cp205 := V_203
    obtain ⟨cl_204, Ar_204, ck_204, Sz_204, Ng_204, Hs_204, Gs_204⟩ := cp205
    have hin_204 : ¬ ((0 : Int32) < 0 ∨ cl_204.slots.size ≤ ((0 : Int32)).toNatClampNeg) := inb_of Sz_204 ⟨by decide, by decide⟩
    obtain ⟨T_204, h_204, X_204, e_204, W_204, st_204⟩ := stC X_203 hx hZ e_203 Ar_204 (j := (0 : Int32)) hin_204 (g := (mkF m 39 #[.val (.int p0), .val (.int p1), .val (.int p2), .val (.int p3), .val (.int (2 : Int32)), .val (.int v1_200), .val (.int v1_201), .val (.int v1_202), .val (.ref b203), .unset, .unset, .unset, .unset, .unset, .unset] [(.int v1_200), (.int (0 : Int32)), (.ref b203)])) rfl rfl (hb hby at_39)
    refine Go.step st_204 ?_
    have N_204 := Fr.snoc X_204 N_202 g_b203
    have C_204 := CHr.wr W_204 (Safe.arv hZ.alike V_203 (by decide)) C_203.1
    have CR_204 := CHr.trans CR_203 C_204
    have le_204 : h_203.size ≤ h_204.size := Nat.le_of_eq W_204.size.symm
    have KP_204 := KP_203.wr W_204 (Or.inr sz_b203)
    have O_204 := O_203.wr W_204 g_b203
    have V_204 : Arv Z h_204 b203 k_203 .char (2 : Int32) [(.int v1_200), (.int (0 : Int32))] (.int (0 : Int32)) := by
      have q := Arv.set Ar_204 ck_204 Sz_204 Ng_204 Hs_204 Gs_204 (fits_nar_char _) W_204 0 rfl (Nat.le_of_ble_eq_true rfl)
      rw [nar_lat hlat_200] at q; exact q
    show Go p e below _ (T_204.setTop (mkF m 40 #[.val (.int p0), .val (.int p1), .val (.int p2), .val (.int p3), .val (.int (2 : Int32)), .val (.int v1_200), .val (.int v1_201), .val (.int v1_202), .val (.ref b203), .unset, .unset, .unset, .unset, .unset, .unset] []))
    refine Go.step (fun _ k => XS.iload X_204.here hx rfl (hb hby at_40) rfl  k) ?_
    show Go p e below _ (T_204.setTop (mkF m 42 #[.val (.int p0), .val (.int p1), .val (.int p2), .val (.int p3), .val (.int (2 : Int32)), .val (.int v1_200), .val (.int v1_201), .val (.int v1_202), .val (.ref b203), .unset, .unset, .unset, .unset, .unset, .unset] [(.int (2 : Int32))]))
    refine Go.step (fun _ k => XS.iconst X_204.here hx rfl (hb hby at_42) k) ?_
    show Go p e below _ (T_204.setTop (mkF m 43 #[.val (.int p0), .val (.int p1), .val (.int p2), .val (.int p3), .val (.int (2 : Int32)), .val (.int v1_200), .val (.int v1_201), .val (.int v1_202), .val (.ref b203), .unset, .unset, .unset, .unset, .unset, .unset] [(.int (1 : Int32)), (.int (2 : Int32))]))
    refine Go.step (fun _ k => XS.icmpNo X_204.here hx rfl (hb hby at_43) rfl (tlt ((by decide) : (1 : Int32) < (2 : Int32))).2.2.2 k) ?_
    show Go p e below _ (T_204.setTop (mkF m 46 #[.val (.int p0), .val (.int p1), .val (.int p2), .val (.int p3), .val (.int (2 : Int32)), .val (.int v1_200), .val (.int v1_201), .val (.int v1_202), .val (.ref b203), .unset, .unset, .unset, .unset, .unset, .unset] []))
    refine Go.step (fun _ k => XS.aload X_204.here hx rfl (hb hby at_46) rfl rfl k) ?_
    show Go p e below _ (T_204.setTop (mkF m 48 #[.val (.int p0), .val (.int p1), .val (.int p2), .val (.int p3), .val (.int (2 : Int32)), .val (.int v1_200), .val (.int v1_201), .val (.int v1_202), .val (.ref b203), .unset, .unset, .unset, .unset, .unset, .unset] [(.ref b203)]))
    refine Go.step (fun _ k => XS.iconst X_204.here hx rfl (hb hby at_48) k) ?_
    show Go p e below _ (T_204.setTop (mkF m 49 #[.val (.int p0), .val (.int p1), .val (.int p2), .val (.int p3), .val (.int (2 : Int32)), .val (.int v1_200), .val (.int v1_201), .val (.int v1_202), .val (.ref b203), .unset, .unset, .unset, .unset, .unset, .unset] [(.int (1 : Int32)), (.ref b203)]))
    refine Go.step (fun _ k => XS.iload X_204.here hx rfl (hb hby at_49) rfl  k) ?_
    show Go p e below _ (T_204.setTop (mkF m 51 #[.val (.int p0), .val (.int p1), .val (.int p2), .val (.int p3), .val (.int (2 : Int32)), .val (.int v1_200), .val (.int v1_201), .val (.int v1_202), .val (.ref b203), .unset, .unset, .unset, .unset, .unset, .unset] [(.int v1_201), (.int (1 : Int32)), (.ref b203)]))
    have cp207 := V_204
    obtain ⟨cl_206, Ar_206, ck_206, Sz_206, Ng_206, Hs_206, Gs_206⟩ := cp207
    have hin_206 : ¬ ((1 : Int32) < 0 ∨ cl_206.slots.size ≤ ((1 : Int32)).toNatClampNeg) := inb_of Sz_206 ⟨by decide, by decide⟩
    obtain ⟨T_206, h_206, X_206, e_206, W_206, st_206⟩ := stC X_204 hx hZ e_204 Ar_206 (j := (1 : Int32)) hin_206 (g := (mkF m 51 #[.val (.int p0), .val (.int p1), .val (.int p2), .val (.int p3), .val (.int (2 : Int32)), .val (.int v1_200), .val (.int v1_201), .val (.int v1_202), .val (.ref b203), .unset, .unset, .unset, .unset, .unset, .unset] [(.int v1_201), (.int (1 : Int32)), (.ref b203)])) rfl rfl (hb hby at_51)
    refine Go.step st_206 ?_
    have N_206 := Fr.snoc X_206 N_204 g_b203
    have C_206 := CHr.wr W_206 (Safe.arv hZ.alike V_204 (by decide)) C_204.1
    have CR_206 := CHr.trans CR_204 C_206
    have le_206 : h_204.size ≤ h_206.size := Nat.le_of_eq W_206.size.symm
    have KP_206 := KP_204.wr W_206 (Or.inr sz_b203)
    have O_206 := O_204.wr W_206 g_b203
    have V_206 : Arv Z h_206 b203 k_203 .char (2 : Int32) [(.int v1_200), (.int v1_201)] (.int (0 : Int32)) := by
      have q := Arv.set Ar_206 ck_206 Sz_206 Ng_206 Hs_206 Gs_206 (fits_nar_char _) W_206 1 rfl (Nat.le_of_ble_eq_true rfl)
      rw [nar_lat hlat_201] at q; exact q
    show Go p e below _ (T_206.setTop (mkF m 52 #[.val (.int p0), .val (.int p1), .val (.int p2), .val (.int p3), .val (.int (2 : Int32)), .val (.int v1_200), .val (.int v1_201), .val (.int v1_202), .val (.ref b203), .unset, .unset, .unset, .unset, .unset, .unset] []))
    refine Go.step (fun _ k => XS.iload X_206.here hx rfl (hb hby at_52) rfl  k) ?_
    show Go p e below _ (T_206.setTop (mkF m 54 #[.val (.int p0), .val (.int p1), .val (.int p2), .val (.int p3), .val (.int (2 : Int32)), .val (.int v1_200), .val (.int v1_201), .val (.int v1_202), .val (.ref b203), .unset, .unset, .unset, .unset, .unset, .unset] [(.int (2 : Int32))]))
    refine Go.step (fun _ k => XS.iconst X_206.here hx rfl (hb hby at_54) k) ?_
    show Go p e below _ (T_206.setTop (mkF m 55 #[.val (.int p0), .val (.int p1), .val (.int p2), .val (.int p3), .val (.int (2 : Int32)), .val (.int v1_200), .val (.int v1_201), .val (.int v1_202), .val (.ref b203), .unset, .unset, .unset, .unset, .unset, .unset] [(.int (2 : Int32)), (.int (2 : Int32))]))
    refine Go.step (fun _ k => XS.icmpYes X_206.here hx rfl (pc0 := 55) (pc' := 64) rfl (hb hby at_55) rfl (flt ((by decide) : ¬ ((2 : Int32) < (2 : Int32)))).2.2.2 (by decide) (by decide) k) ?_
    show Go p e below _ (T_206.setTop (mkF m 64 #[.val (.int p0), .val (.int p1), .val (.int p2), .val (.int p3), .val (.int (2 : Int32)), .val (.int v1_200), .val (.int v1_201), .val (.int v1_202), .val (.ref b203), .unset, .unset, .unset, .unset, .unset, .unset] []))
    obtain ⟨T_208, h_208, X_208, e_208, E_208, A_208, D_208, -, st_208⟩ := newO X_206 hx hZ hown (wd_5 hw) (wd_6 hw) (wd_7 hw) e_206 (g := (mkF m 64 #[.val (.int p0), .val (.int p1), .val (.int p2), .val (.int p3), .val (.int (2 : Int32)), .val (.int v1_200), .val (.int v1_201), .val (.int v1_202), .val (.ref b203), .unset, .unset, .unset, .unset, .unset, .unset] [])) rfl (hb hby at_64) (by decide) (by decide)
    obtain ⟨b208, q_208⟩ : ∃ z, z = h_206.size := ⟨_, rfl⟩
    rw [← q_208] at A_208 D_208 st_208
    refine Go.step st_208 ?_
    have C_208 := CHr.ext E_208 C_206.1
    have CR_208 := CHr.trans CR_206 C_208
    have le_208 : h_206.size ≤ h_208.size := E_208.1
    have KP_208 := KP_206.ext E_208
    have O_208 := O_206.ext E_208
    have ge_208 : h_206.size ≤ b208 := Nat.le_of_eq q_208.symm
    have sz_b208 : h0.size ≤ b208 := Nat.le_trans (Nat.le_trans le_203 (Nat.le_trans le_204 le_206)) ge_208
    have g_b208 : n0 ≤ b208 := Nat.le_trans Z0 sz_b208
    have F_208_20 : Fld Z h_208 b208 "java/lang/String" "value" "[B" .null := D_208 (Or.inr (wd_20 hw)) (ty := (.array .byte)) pf_0
    have F_208_21 : Fld Z h_208 b208 "java/lang/String" "coder" "B" (.int (0 : Int32)) := D_208 (Or.inr (wd_21 hw)) (ty := .byte) pf_1
    have Sf_b208 := Safe.ext E_208 C_206.1 (Safe.new ge_208)
    show Go p e below _ (T_208.setTop (mkF m 67 #[.val (.int p0), .val (.int p1), .val (.int p2), .val (.int p3), .val (.int (2 : Int32)), .val (.int v1_200), .val (.int v1_201), .val (.int v1_202), .val (.ref b203), .unset, .unset, .unset, .unset, .unset, .unset] [(.ref b208)]))
    refine Go.step (fun _ k => XS.dup X_208.here hx rfl (hb hby at_67) rfl rfl k) ?_
    show Go p e below _ (T_208.setTop (mkF m 68 #[.val (.int p0), .val (.int p1), .val (.int p2), .val (.int p3), .val (.int (2 : Int32)), .val (.int v1_200), .val (.int v1_201), .val (.int v1_202), .val (.ref b203), .unset, .unset, .unset, .unset, .unset, .unset] [(.ref b208), (.ref b208)]))
    refine Go.step (fun _ k => XS.aload X_208.here hx rfl (hb hby at_68) rfl rfl k) ?_
    show Go p e below _ (T_208.setTop (mkF m 70 #[.val (.int p0), .val (.int p1), .val (.int p2), .val (.int p3), .val (.int (2 : Int32)), .val (.int v1_200), .val (.int v1_201), .val (.int v1_202), .val (.ref b203), .unset, .unset, .unset, .unset, .unset, .unset] [(.ref b203), (.ref b208), (.ref b208)]))
    have f209 : Arv Z h_208 b203 k_203 .char (2 : Int32) [(.int v1_200), (.int v1_201)] (.int (0 : Int32)) := (V_206.ext E_208)
    have hp210 : ∀ c ∈ ([v1_200, v1_201] : List Int32), ¬ c < 0 ∧ ¬ (255 : Int32) < c := (latc hlat_200 (latc hlat_201 lat0))
    obtain ⟨v_211, T_211, L_211, X_211, hQ_211, st_211⟩ := goC X_208 hx hZ (y := ({ cls := "java/lang/String", name := "<init>", desc := "([C)V" } : Jvm.MethodName)) hown rfl (wd_8 hw) (wd_9 hw) (wd_10 hw) (by decide) (StrChars.Road.backV (W := 1) hZ (sw_words hw) (kI := 4) (wd_6 hw) (cs := ([v1_200, v1_201] : List Int32)) (bs := ([v1_200, v1_201] : List Int32).map (fun c => c.toInt8.toInt32)) (n := 2) g_b208 (Nat.le_trans Z0 KP_208.1) A_208 F_208_20 F_208_21 f209 (S_cs.ext O_208.2) n_cs rfl rfl (by decide) (by decide) hp210 rfl (by decide) (by decide)) e_208 (g := (mkF m 70 #[.val (.int p0), .val (.int p1), .val (.int p2), .val (.int p3), .val (.int (2 : Int32)), .val (.int v1_200), .val (.int v1_201), .val (.int v1_202), .val (.ref b203), .unset, .unset, .unset, .unset, .unset, .unset] [(.ref b203), (.ref b208), (.ref b208)])) rfl (by rw [hml]; rfl) (a := b208) (argsL := [(.ref b203)]) (rest := [(.ref b208)]) rfl (lenOf pd_4 rfl) rfl (by show 2 * 0 + _ ≤ _; exact Nat.le_of_eq rfl) (hb hby at_70) (by decide) (by decide)
    obtain ⟨rfl, Nq_211, K_211, Ex_211, Fc_211, t_211, kb_211, -, gt_211, -, Fv_211, Av_211⟩ := hQ_211
    have N_211 := Fr.app N_206 Nq_211
    have C_211 := CHr.keep K_211 (sfS Sf_b208 sf0) C_208.1
    have CR_211 := CHr.trans CR_208 C_211
    have le_211 : h_208.size ≤ T_211.heap.size := K_211.1
    have KP_211 := KP_208.trans K_211 (allS (Or.inr sz_b208) all0)
    have O_211 := O_208.keep K_211 (allS g_b208 all0)
    have Sx_211 : Str Z (T_211.heap).size (T_211.heap) b208 ([v1_200, v1_201] : List Int32) := ⟨t_211, kb_211, Ex_211.lt, Av_211.lt, Ex_211, Fv_211, Fc_211, Av_211, hp210, Nat.le_of_ble_eq_true rfl⟩
    refine Go.step st_211 ?_
    show Go p e below _ (T_211.setTop (mkF m 73 #[.val (.int p0), .val (.int p1), .val (.int p2), .val (.int p3), .val (.int (2 : Int32)), .val (.int v1_200), .val (.int v1_201), .val (.int v1_202), .val (.ref b203), .unset, .unset, .unset, .unset, .unset, .unset] [(.ref b208)]))
    refine Go.step (fun _ k => XS.astore X_211.here hx rfl (hb hby at_73) rfl rfl (l' := #[.val (.int p0), .val (.int p1), .val (.int p2), .val (.int p3), .val (.int (2 : Int32)), .val (.int v1_200), .val (.int v1_201), .val (.int v1_202), .val (.ref b203), .val (.ref b208), .unset, .unset, .unset, .unset, .unset]) rfl k) ?_
    show Go p e below _ (T_211.setTop (mkF m 75 #[.val (.int p0), .val (.int p1), .val (.int p2), .val (.int p3), .val (.int (2 : Int32)), .val (.int v1_200), .val (.int v1_201), .val (.int v1_202), .val (.ref b203), .val (.ref b208), .unset, .unset, .unset, .unset, .unset] []))
    obtain ⟨T_212, h_212, X_212, e_212, E_212, A_212, D_212, -, st_212⟩ := newO X_211 hx hZ hown (wd_26 hw) (wd_27 hw) (wd_28 hw) rfl (g := (mkF m 75 #[.val (.int p0), .val (.int p1), .val (.int p2), .val (.int p3), .val (.int (2 : Int32)), .val (.int v1_200), .val (.int v1_201), .val (.int v1_202), .val (.ref b203), .val (.ref b208), .unset, .unset, .unset, .unset, .unset] [])) rfl (hb hby at_75) (by decide) (by decide)
    obtain ⟨b212, q_212⟩ : ∃ z, z = T_211.heap.size := ⟨_, rfl⟩
    rw [← q_212] at A_212 D_212 st_212
    refine Go.step st_212 ?_
    have C_212 := CHr.ext E_212 C_211.1
    have CR_212 := CHr.trans CR_211 C_212
    have le_212 : T_211.heap.size ≤ h_212.size := E_212.1
    have KP_212 := KP_211.ext E_212
    have O_212 := O_211.ext E_212
    have ge_212 : T_211.heap.size ≤ b212 := Nat.le_of_eq q_212.symm
    have sz_b212 : h0.size ≤ b212 := Nat.le_trans (Nat.le_trans le_203 (Nat.le_trans le_204 (Nat.le_trans le_206 (Nat.le_trans le_208 le_211)))) ge_212
    have g_b212 : n0 ≤ b212 := Nat.le_trans Z0 sz_b212
    have F_212_34 : Fld Z h_212 b212 "com/example/sigyn/sigyn/sip/SipScanner" "text" "Ljava/lang/String;" .null := D_212 (Or.inr (wd_34 hw)) (ty := (.object "java/lang/String")) pf_2
    have F_212_41 : Fld Z h_212 b212 "com/example/sigyn/sigyn/sip/SipScanner" "pos" "I" (.int (0 : Int32)) := D_212 (Or.inl (wd_41 hw)) (ty := .int) pf_3
    have Sf_b212 := Safe.ext E_212 C_211.1 (Safe.new ge_212)
    show Go p e below _ (T_212.setTop (mkF m 78 #[.val (.int p0), .val (.int p1), .val (.int p2), .val (.int p3), .val (.int (2 : Int32)), .val (.int v1_200), .val (.int v1_201), .val (.int v1_202), .val (.ref b203), .val (.ref b208), .unset, .unset, .unset, .unset, .unset] [(.ref b212)]))
    refine Go.step (fun _ k => XS.dup X_212.here hx rfl (hb hby at_78) rfl rfl k) ?_
    show Go p e below _ (T_212.setTop (mkF m 79 #[.val (.int p0), .val (.int p1), .val (.int p2), .val (.int p3), .val (.int (2 : Int32)), .val (.int v1_200), .val (.int v1_201), .val (.int v1_202), .val (.ref b203), .val (.ref b208), .unset, .unset, .unset, .unset, .unset] [(.ref b212), (.ref b212)]))
    refine Go.step (fun _ k => XS.aload X_212.here hx rfl (hb hby at_79) rfl rfl k) ?_
    show Go p e below _ (T_212.setTop (mkF m 81 #[.val (.int p0), .val (.int p1), .val (.int p2), .val (.int p3), .val (.int (2 : Int32)), .val (.int v1_200), .val (.int v1_201), .val (.int v1_202), .val (.ref b203), .val (.ref b208), .unset, .unset, .unset, .unset, .unset] [(.ref b208), (.ref b212), (.ref b212)]))
    obtain ⟨v_213, T_213, L_213, X_213, hQ_213, st_213⟩ := goC X_212 hx hZ (y := ({ cls := "com/example/sigyn/sigyn/sip/SipScanner", name := "<init>", desc := "(Ljava/lang/String;)V" } : Jvm.MethodName)) hown rfl (wd_29 hw) (wd_30 hw) (wd_31 hw) (by decide) (backOf (W := 1) (rm_initSS l Z a0 hw zc vfm (b212) (b208) h_212 n0 (Nat.le_trans Z0 KP_212.1) A_212 F_212_34 F_212_41 g_b212 hSt O_212) hZ (wd_31 hw) (wd_28 hw) (by decide) (by decide)) e_212 (g := (mkF m 81 #[.val (.int p0), .val (.int p1), .val (.int p2), .val (.int p3), .val (.int (2 : Int32)), .val (.int v1_200), .val (.int v1_201), .val (.int v1_202), .val (.ref b203), .val (.ref b208), .unset, .unset, .unset, .unset, .unset] [(.ref b208), (.ref b212), (.ref b212)])) rfl (by rw [hml]; rfl) (a := b212) (argsL := [(.ref b208)]) (rest := [(.ref b212)]) rfl (lenOf pd_5 rfl) rfl (by show 2 * 0 + _ ≤ _; exact Nat.le_of_eq rfl) (hb hby at_81) (by decide) (by decide)
    obtain ⟨rfl, Nq_213, K_213, u0_213, u1_213⟩ := hQ_213
    have N_213 := Fr.app N_211 Nq_213
    have C_213 := CHr.keep K_213 (sfS (Safe.exa hZ.alike A_212 (by decide) (by decide)) sf0) C_212.1
    have CR_213 := CHr.trans CR_212 C_213
    have le_213 : h_212.size ≤ T_213.heap.size := K_213.1
    have KP_213 := KP_212.trans K_213 (allS (Or.inr sz_b212) all0)
    have O_213 := O_212.keep K_213 (allS g_b212 all0)
    refine Go.step st_213 ?_
    show Go p e below _ (T_213.setTop (mkF m 84 #[.val (.int p0), .val (.int p1), .val (.int p2), .val (.int p3), .val (.int (2 : Int32)), .val (.int v1_200), .val (.int v1_201), .val (.int v1_202), .val (.ref b203), .val (.ref b208), .unset, .unset, .unset, .unset, .unset] [(.ref b212)]))
    refine Go.step (fun _ k => XS.astore X_213.here hx rfl (hb hby at_84) rfl rfl (l' := #[.val (.int p0), .val (.int p1), .val (.int p2), .val (.int p3), .val (.int (2 : Int32)), .val (.int v1_200), .val (.int v1_201), .val (.int v1_202), .val (.ref b203), .val (.ref b208), .val (.ref b212), .unset, .unset, .unset, .unset]) rfl k) ?_
    show Go p e below _ (T_213.setTop (mkF m 86 #[.val (.int p0), .val (.int p1), .val (.int p2), .val (.int p3), .val (.int (2 : Int32)), .val (.int v1_200), .val (.int v1_201), .val (.int v1_202), .val (.ref b203), .val (.ref b208), .val (.ref b212), .unset, .unset, .unset, .unset] []))
    refine Go.step (fun _ k => XS.aload X_213.here hx rfl (hb hby at_86) rfl rfl k) ?_
    show Go p e below _ (T_213.setTop (mkF m 88 #[.val (.int p0), .val (.int p1), .val (.int p2), .val (.int p3), .val (.int (2 : Int32)), .val (.int v1_200), .val (.int v1_201), .val (.int v1_202), .val (.ref b203), .val (.ref b208), .val (.ref b212), .unset, .unset, .unset, .unset] [(.ref b212)]))
    have f214 : Str Z (T_211.heap).size T_213.heap b208 ([v1_200, v1_201] : List Int32) := ((Sx_211.ext E_212).keep K_213 (allS (Nat.le_trans (Nat.le_refl _) ge_212) all0))
    have f216 : Exa Z T_213.heap b212 "com/example/sigyn/sigyn/sip/SipScanner" := (A_212.keep K_213)
    obtain ⟨v_215, T_215, L_215, X_215, hQ_215, st_215⟩ := goV X_213 hx hZ (y := ({ cls := "com/example/sigyn/sigyn/sip/SipScanner", name := "atEnd", desc := "()Z" } : Jvm.MethodName)) (z := ({ cls := "com/example/sigyn/sigyn/sip/SipScanner", name := "atEnd", desc := "()Z" } : Jvm.MethodName)) hown (wd_35 hw) (wd_36 hw) (notFace_of_selects (args := #[]) (mvT hZ (wd_38 hw))) (wd_38 hw) (wd_37 hw) (by decide) (backOf (W := 0) (rm_atEnd l Z a0 hw zc vfm (b212) ((0 : Int32)) (b208) (([v1_200, v1_201] : List Int32)) ((2 : Int32)) T_213.heap n0 (Nat.le_trans Z0 KP_213.1) u0_213 u1_213 (f214.mono (Nat.le_trans le_212 le_213)) rfl hSt O_213) hZ (wd_39 hw) (wd_28 hw) (by decide) (by decide)) rfl f216 (g := (mkF m 88 #[.val (.int p0), .val (.int p1), .val (.int p2), .val (.int p3), .val (.int (2 : Int32)), .val (.int v1_200), .val (.int v1_201), .val (.int v1_202), .val (.ref b203), .val (.ref b208), .val (.ref b212), .unset, .unset, .unset, .unset] [(.ref b212)])) rfl (by rw [hml]; rfl) (argsL := []) (rest := []) rfl (lenOf pd_6 rfl) rfl (by show 2 * 0 + _ ≤ _; exact Nat.le_of_eq rfl) (hb hby at_88) (by decide) (by decide)
    obtain ⟨rfl, Nq_215, e_215⟩ := hQ_215
    have N_215 := Fr.app N_213 Nq_215
    refine Go.step st_215 ?_
    show Go p e below _ (T_215.setTop (mkF m 91 #[.val (.int p0), .val (.int p1), .val (.int p2), .val (.int p3), .val (.int (2 : Int32)), .val (.int v1_200), .val (.int v1_201), .val (.int v1_202), .val (.ref b203), .val (.ref b208), .val (.ref b212), .unset, .unset, .unset, .unset] [(.int (if (0 : Int32) = (2 : Int32) then (1 : Int32) else 0))]))
    refine Go.step (fun _ k => XS.istore X_215.here hx rfl (hb hby at_91) rfl (l' := #[.val (.int p0), .val (.int p1), .val (.int p2), .val (.int p3), .val (.int (2 : Int32)), .val (.int v1_200), .val (.int v1_201), .val (.int v1_202), .val (.ref b203), .val (.ref b208), .val (.ref b212), .val (.int (if (0 : Int32) = (2 : Int32) then (1 : Int32) else 0)), .unset, .unset, .unset]) rfl k) ?_
    show Go p e below _ (T_215.setTop (mkF m 93 #[.val (.int p0), .val (.int p1), .val (.int p2), .val (.int p3), .val (.int (2 : Int32)), .val (.int v1_200), .val (.int v1_201), .val (.int v1_202), .val (.ref b203), .val (.ref b208), .val (.ref b212), .val (.int (if (0 : Int32) = (2 : Int32) then (1 : Int32) else 0)), .unset, .unset, .unset] []))
    refine Go.step (fun _ k => XS.iload X_215.here hx rfl (hb hby at_93) rfl  k) ?_
    show Go p e below _ (T_215.setTop (mkF m 95 #[.val (.int p0), .val (.int p1), .val (.int p2), .val (.int p3), .val (.int (2 : Int32)), .val (.int v1_200), .val (.int v1_201), .val (.int v1_202), .val (.ref b203), .val (.ref b208), .val (.ref b212), .val (.int (if (0 : Int32) = (2 : Int32) then (1 : Int32) else 0)), .unset, .unset, .unset] [(.int (if (0 : Int32) = (2 : Int32) then (1 : Int32) else 0))]))
    refine Go.step (fun _ k => XS.iload X_215.here hx rfl (hb hby at_95) rfl  k) ?_
    show Go p e below _ (T_215.setTop (mkF m 97 #[.val (.int p0), .val (.int p1), .val (.int p2), .val (.int p3), .val (.int (2 : Int32)), .val (.int v1_200), .val (.int v1_201), .val (.int v1_202), .val (.ref b203), .val (.ref b208), .val (.ref b212), .val (.int (if (0 : Int32) = (2 : Int32) then (1 : Int32) else 0)), .unset, .unset, .unset] [(.int (2 : Int32)), (.int (if (0 : Int32) = (2 : Int32) then (1 : Int32) else 0))]))
    refine Go.step (fun _ k => XS.ifYes X_215.here hx rfl (pc0 := 97) (pc' := 104) rfl (hb hby at_97) rfl ((if0 _ _).trans (feq ((by decide) : ¬ ((2 : Int32) = (0 : Int32)))).2) (by decide) (by decide) k) ?_
    show Go p e below _ (T_215.setTop (mkF m 104 #[.val (.int p0), .val (.int p1), .val (.int p2), .val (.int p3), .val (.int (2 : Int32)), .val (.int v1_200), .val (.int v1_201), .val (.int v1_202), .val (.ref b203), .val (.ref b208), .val (.ref b212), .val (.int (if (0 : Int32) = (2 : Int32) then (1 : Int32) else 0)), .unset, .unset, .unset] [(.int (if (0 : Int32) = (2 : Int32) then (1 : Int32) else 0))]))
    refine Go.step (fun _ k => XS.iconst X_215.here hx rfl (hb hby at_104) k) ?_
    show Go p e below _ (T_215.setTop (mkF m 105 #[.val (.int p0), .val (.int p1), .val (.int p2), .val (.int p3), .val (.int (2 : Int32)), .val (.int v1_200), .val (.int v1_201), .val (.int v1_202), .val (.ref b203), .val (.ref b208), .val (.ref b212), .val (.int (if (0 : Int32) = (2 : Int32) then (1 : Int32) else 0)), .unset, .unset, .unset] [(.int (0 : Int32)), (.int (if (0 : Int32) = (2 : Int32) then (1 : Int32) else 0))]))
    refine Go.step (fun _ k => XS.icmpYes X_215.here hx rfl (pc0 := 105) (pc' := 110) rfl (hb hby at_105) rfl (teq ((by decide) : (if (0 : Int32) = (2 : Int32) then (1 : Int32) else 0) = (0 : Int32))).1 (by decide) (by decide) k) ?_
    show Go p e below _ (T_215.setTop (mkF m 110 #[.val (.int p0), .val (.int p1), .val (.int p2), .val (.int p3), .val (.int (2 : Int32)), .val (.int v1_200), .val (.int v1_201), .val (.int v1_202), .val (.ref b203), .val (.ref b208), .val (.ref b212), .val (.int (if (0 : Int32) = (2 : Int32) then (1 : Int32) else 0)), .unset, .unset, .unset] []))
    refine Go.step (fun _ k => XS.aload X_215.here hx rfl (hb hby at_110) rfl rfl k) ?_
    show Go p e below _ (T_215.setTop (mkF m 112 #[.val (.int p0), .val (.int p1), .val (.int p2), .val (.int p3), .val (.int (2 : Int32)), .val (.int v1_200), .val (.int v1_201), .val (.int v1_202), .val (.ref b203), .val (.ref b208), .val (.ref b212), .val (.int (if (0 : Int32) = (2 : Int32) then (1 : Int32) else 0)), .unset, .unset, .unset] [(.ref b212)]))
    obtain ⟨v_217, T_217, L_217, X_217, hQ_217, st_217⟩ := goV X_215 hx hZ (y := ({ cls := "com/example/sigyn/sigyn/sip/SipScanner", name := "skipSpace", desc := "()I" } : Jvm.MethodName)) (z := ({ cls := "com/example/sigyn/sigyn/sip/SipScanner", name := "skipSpace", desc := "()I" } : Jvm.MethodName)) hown (wd_53 hw) (wd_54 hw) (notFace_of_selects (args := #[]) (mvT hZ (wd_56 hw))) (wd_56 hw) (wd_55 hw) (by decide) (backOf (W := 0) (rm_skip2 l Z a0 hw zc vfm (b212) (b208) (v1_200) (v1_201) T_213.heap n0 (Nat.le_trans Z0 KP_213.1) f216 u0_213 u1_213 (f214.mono (Nat.le_trans le_212 le_213)) g_b212 hSt O_213) hZ (wd_57 hw) (wd_28 hw) (by decide) (by decide)) e_215 f216 (g := (mkF m 112 #[.val (.int p0), .val (.int p1), .val (.int p2), .val (.int p3), .val (.int (2 : Int32)), .val (.int v1_200), .val (.int v1_201), .val (.int v1_202), .val (.ref b203), .val (.ref b208), .val (.ref b212), .val (.int (if (0 : Int32) = (2 : Int32) then (1 : Int32) else 0)), .unset, .unset, .unset] [(.ref b212)])) rfl (by rw [hml]; rfl) (argsL := []) (rest := []) rfl (lenOf pd_1 rfl) rfl (by show 2 * 0 + _ ≤ _; exact Nat.le_of_eq rfl) (hb hby at_112) (by decide) (by decide)
    obtain ⟨v1_217, v2_217, rfl, Nq_217, K_217, u0_217, u1_217, u2_217⟩ := hQ_217
    have N_217 := Fr.app N_215 Nq_217
    have C_217 := CHr.keep K_217 (sfS (Safe.exa hZ.alike f216 (by decide) (by decide)) sf0) C_213.1
    have CR_217 := CHr.trans CR_213 C_217
    have le_217 : T_213.heap.size ≤ T_217.heap.size := K_217.1
    have KP_217 := KP_213.trans K_217 (allS (Or.inr sz_b212) all0)
    have O_217 := O_213.keep K_217 (allS g_b212 all0)
    have hv_217 := u2_217
    refine Go.step st_217 ?_
    show Go p e below _ (T_217.setTop (mkF m 115 #[.val (.int p0), .val (.int p1), .val (.int p2), .val (.int p3), .val (.int (2 : Int32)), .val (.int v1_200), .val (.int v1_201), .val (.int v1_202), .val (.ref b203), .val (.ref b208), .val (.ref b212), .val (.int (if (0 : Int32) = (2 : Int32) then (1 : Int32) else 0)), .unset, .unset, .unset] [(.int v2_217)]))
    have hv := hv_217
    show Go p e below _ (T_217.setTop (mkF m 115 #[.val (.int p0), .val (.int p1), .val (.int p2), .val (.int p3), .val (.int (2 : Int32)), .val (.int v1_200), .val (.int v1_201), .val (.int v1_202), .val (.ref b203), .val (.ref b208), .val (.ref b212), .val (.int (if (0 : Int32) = (2 : Int32) then (1 : Int32) else 0)), .unset, .unset, .unset] [(.int v2_217)]))
    refine Go.step (fun _ k => XS.pop X_217.here hx rfl (hb hby at_115) rfl rfl k) ?_
    show Go p e below _ (T_217.setTop (mkF m 116 #[.val (.int p0), .val (.int p1), .val (.int p2), .val (.int p3), .val (.int (2 : Int32)), .val (.int v1_200), .val (.int v1_201), .val (.int v1_202), .val (.ref b203), .val (.ref b208), .val (.ref b212), .val (.int (if (0 : Int32) = (2 : Int32) then (1 : Int32) else 0)), .unset, .unset, .unset] []))
    refine Go.step (fun _ k => XS.iload X_217.here hx rfl (hb hby at_116) rfl  k) ?_
    show Go p e below _ (T_217.setTop (mkF m 118 #[.val (.int p0), .val (.int p1), .val (.int p2), .val (.int p3), .val (.int (2 : Int32)), .val (.int v1_200), .val (.int v1_201), .val (.int v1_202), .val (.ref b203), .val (.ref b208), .val (.ref b212), .val (.int (if (0 : Int32) = (2 : Int32) then (1 : Int32) else 0)), .unset, .unset, .unset] [(.int (2 : Int32))]))
    refine Go.step (fun _ k => XS.iconst X_217.here hx rfl (hb hby at_118) k) ?_
    show Go p e below _ (T_217.setTop (mkF m 119 #[.val (.int p0), .val (.int p1), .val (.int p2), .val (.int p3), .val (.int (2 : Int32)), .val (.int v1_200), .val (.int v1_201), .val (.int v1_202), .val (.ref b203), .val (.ref b208), .val (.ref b212), .val (.int (if (0 : Int32) = (2 : Int32) then (1 : Int32) else 0)), .unset, .unset, .unset] [(.int (1 : Int32)), (.int (2 : Int32))]))
    refine Go.step (fun _ k => XS.icmpNo X_217.here hx rfl (hb hby at_119) rfl (flt ((by decide) : ¬ ((2 : Int32) < (1 : Int32)))).1 k) ?_
    show Go p e below _ (T_217.setTop (mkF m 122 #[.val (.int p0), .val (.int p1), .val (.int p2), .val (.int p3), .val (.int (2 : Int32)), .val (.int v1_200), .val (.int v1_201), .val (.int v1_202), .val (.ref b203), .val (.ref b208), .val (.ref b212), .val (.int (if (0 : Int32) = (2 : Int32) then (1 : Int32) else 0)), .unset, .unset, .unset] []))
    refine Go.step (fun _ k => XS.iload X_217.here hx rfl (hb hby at_122) rfl  k) ?_
    show Go p e below _ (T_217.setTop (mkF m 124 #[.val (.int p0), .val (.int p1), .val (.int p2), .val (.int p3), .val (.int (2 : Int32)), .val (.int v1_200), .val (.int v1_201), .val (.int v1_202), .val (.ref b203), .val (.ref b208), .val (.ref b212), .val (.int (if (0 : Int32) = (2 : Int32) then (1 : Int32) else 0)), .unset, .unset, .unset] [(.int v1_200)]))
    obtain ⟨v_218, T_218, L_218, X_218, hQ_218, st_218⟩ := goS X_217 hx hZ (y := ({ cls := "com/example/sigyn/sigyn/sip/SipScannerAtEndPinLaw", name := "sp", desc := "(C)Z" } : Jvm.MethodName)) hown (wd_93 hw) (wd_94 hw) (wd_2 hw) (wd_95 hw) (by decide) (backOf (W := 0) (rm_sp l Z a0 hw zc vfm (v1_200) T_217.heap n0 (Nat.le_trans Z0 KP_217.1) hSt O_217) hZ (wd_95 hw) (wd_2 hw) (by decide) (by decide)) rfl (g := (mkF m 124 #[.val (.int p0), .val (.int p1), .val (.int p2), .val (.int p3), .val (.int (2 : Int32)), .val (.int v1_200), .val (.int v1_201), .val (.int v1_202), .val (.ref b203), .val (.ref b208), .val (.ref b212), .val (.int (if (0 : Int32) = (2 : Int32) then (1 : Int32) else 0)), .unset, .unset, .unset] [(.int v1_200)])) rfl (by rw [hml]; rfl) (argsL := [(.int v1_200)]) (rest := []) rfl (lenOf pd_3 rfl) rfl (by show 2 * 0 + _ ≤ _; exact Nat.le_of_eq rfl) (hb hby at_124) (by decide) (by decide)
    obtain ⟨rfl, Nq_218, e_218⟩ := hQ_218
    have N_218 := Fr.app N_217 Nq_218
    refine Go.step st_218 ?_
    show Go p e below _ (T_218.setTop (mkF m 127 #[.val (.int p0), .val (.int p1), .val (.int p2), .val (.int p3), .val (.int (2 : Int32)), .val (.int v1_200), .val (.int v1_201), .val (.int v1_202), .val (.ref b203), .val (.ref b208), .val (.ref b212), .val (.int (if (0 : Int32) = (2 : Int32) then (1 : Int32) else 0)), .unset, .unset, .unset] [(.int (if isp v1_200 then (1 : Int32) else 0))]))
    by_cases z0 : isp v1_200
    · skip
      refine Go.step (fun _ k => XS.ifNo X_218.here hx rfl (hb hby at_127) rfl ((if0 _ _).trans (feq (b01_ne z0)).1) k) ?_
      show Go p e below _ (T_218.setTop (mkF m 130 #[.val (.int p0), .val (.int p1), .val (.int p2), .val (.int p3), .val (.int (2 : Int32)), .val (.int v1_200), .val (.int v1_201), .val (.int v1_202), .val (.ref b203), .val (.ref b208), .val (.ref b212), .val (.int (if (0 : Int32) = (2 : Int32) then (1 : Int32) else 0)), .unset, .unset, .unset] []))
      refine Go.step (fun _ k => XS.iload X_218.here hx rfl (hb hby at_130) rfl  k) ?_
      show Go p e below _ (T_218.setTop (mkF m 132 #[.val (.int p0), .val (.int p1), .val (.int p2), .val (.int p3), .val (.int (2 : Int32)), .val (.int v1_200), .val (.int v1_201), .val (.int v1_202), .val (.ref b203), .val (.ref b208), .val (.ref b212), .val (.int (if (0 : Int32) = (2 : Int32) then (1 : Int32) else 0)), .unset, .unset, .unset] [(.int (2 : Int32))]))
      refine Go.step (fun _ k => XS.iconst X_218.here hx rfl (hb hby at_132) k) ?_
      show Go p e below _ (T_218.setTop (mkF m 133 #[.val (.int p0), .val (.int p1), .val (.int p2), .val (.int p3), .val (.int (2 : Int32)), .val (.int v1_200), .val (.int v1_201), .val (.int v1_202), .val (.ref b203), .val (.ref b208), .val (.ref b212), .val (.int (if (0 : Int32) = (2 : Int32) then (1 : Int32) else 0)), .unset, .unset, .unset] [(.int (2 : Int32)), (.int (2 : Int32))]))
      refine Go.step (fun _ k => XS.icmpNo X_218.here hx rfl (hb hby at_133) rfl (flt ((by decide) : ¬ ((2 : Int32) < (2 : Int32)))).1 k) ?_
      show Go p e below _ (T_218.setTop (mkF m 136 #[.val (.int p0), .val (.int p1), .val (.int p2), .val (.int p3), .val (.int (2 : Int32)), .val (.int v1_200), .val (.int v1_201), .val (.int v1_202), .val (.ref b203), .val (.ref b208), .val (.ref b212), .val (.int (if (0 : Int32) = (2 : Int32) then (1 : Int32) else 0)), .unset, .unset, .unset] []))
      refine Go.step (fun _ k => XS.iload X_218.here hx rfl (hb hby at_136) rfl  k) ?_
      show Go p e below _ (T_218.setTop (mkF m 138 #[.val (.int p0), .val (.int p1), .val (.int p2), .val (.int p3), .val (.int (2 : Int32)), .val (.int v1_200), .val (.int v1_201), .val (.int v1_202), .val (.ref b203), .val (.ref b208), .val (.ref b212), .val (.int (if (0 : Int32) = (2 : Int32) then (1 : Int32) else 0)), .unset, .unset, .unset] [(.int v1_201)]))
      obtain ⟨v_219, T_219, L_219, X_219, hQ_219, st_219⟩ := goS X_218 hx hZ (y := ({ cls := "com/example/sigyn/sigyn/sip/SipScannerAtEndPinLaw", name := "sp", desc := "(C)Z" } : Jvm.MethodName)) hown (wd_93 hw) (wd_94 hw) (wd_2 hw) (wd_95 hw) (by decide) (backOf (W := 0) (rm_sp l Z a0 hw zc vfm (v1_201) T_217.heap n0 (Nat.le_trans Z0 KP_217.1) hSt O_217) hZ (wd_95 hw) (wd_2 hw) (by decide) (by decide)) e_218 (g := (mkF m 138 #[.val (.int p0), .val (.int p1), .val (.int p2), .val (.int p3), .val (.int (2 : Int32)), .val (.int v1_200), .val (.int v1_201), .val (.int v1_202), .val (.ref b203), .val (.ref b208), .val (.ref b212), .val (.int (if (0 : Int32) = (2 : Int32) then (1 : Int32) else 0)), .unset, .unset, .unset] [(.int v1_201)])) rfl (by rw [hml]; rfl) (argsL := [(.int v1_201)]) (rest := []) rfl (lenOf pd_3 rfl) rfl (by show 2 * 0 + _ ≤ _; exact Nat.le_of_eq rfl) (hb hby at_138) (by decide) (by decide)
      obtain ⟨rfl, Nq_219, e_219⟩ := hQ_219
      have N_219 := Fr.app N_218 Nq_219
      refine Go.step st_219 ?_
      show Go p e below _ (T_219.setTop (mkF m 141 #[.val (.int p0), .val (.int p1), .val (.int p2), .val (.int p3), .val (.int (2 : Int32)), .val (.int v1_200), .val (.int v1_201), .val (.int v1_202), .val (.ref b203), .val (.ref b208), .val (.ref b212), .val (.int (if (0 : Int32) = (2 : Int32) then (1 : Int32) else 0)), .unset, .unset, .unset] [(.int (if isp v1_201 then (1 : Int32) else 0))]))
      by_cases z1 : isp v1_201
      · skip
        refine Go.step (fun _ k => XS.ifNo X_219.here hx rfl (hb hby at_141) rfl ((if0 _ _).trans (feq (b01_ne z1)).1) k) ?_
        show Go p e below _ (T_219.setTop (mkF m 144 #[.val (.int p0), .val (.int p1), .val (.int p2), .val (.int p3), .val (.int (2 : Int32)), .val (.int v1_200), .val (.int v1_201), .val (.int v1_202), .val (.ref b203), .val (.ref b208), .val (.ref b212), .val (.int (if (0 : Int32) = (2 : Int32) then (1 : Int32) else 0)), .unset, .unset, .unset] []))
        refine Go.step (fun _ k => XS.iload X_219.here hx rfl (hb hby at_144) rfl  k) ?_
        show Go p e below _ (T_219.setTop (mkF m 146 #[.val (.int p0), .val (.int p1), .val (.int p2), .val (.int p3), .val (.int (2 : Int32)), .val (.int v1_200), .val (.int v1_201), .val (.int v1_202), .val (.ref b203), .val (.ref b208), .val (.ref b212), .val (.int (if (0 : Int32) = (2 : Int32) then (1 : Int32) else 0)), .unset, .unset, .unset] [(.int (2 : Int32))]))
        refine Go.step (fun _ k => XS.iconst X_219.here hx rfl (hb hby at_146) k) ?_
        show Go p e below _ (T_219.setTop (mkF m 147 #[.val (.int p0), .val (.int p1), .val (.int p2), .val (.int p3), .val (.int (2 : Int32)), .val (.int v1_200), .val (.int v1_201), .val (.int v1_202), .val (.ref b203), .val (.ref b208), .val (.ref b212), .val (.int (if (0 : Int32) = (2 : Int32) then (1 : Int32) else 0)), .unset, .unset, .unset] [(.int (3 : Int32)), (.int (2 : Int32))]))
        refine Go.step (fun _ k => XS.icmpYes X_219.here hx rfl (pc0 := 147) (pc' := 158) rfl (hb hby at_147) rfl (tlt ((by decide) : (2 : Int32) < (3 : Int32))).1 (by decide) (by decide) k) ?_
        show Go p e below _ (T_219.setTop (mkF m 158 #[.val (.int p0), .val (.int p1), .val (.int p2), .val (.int p3), .val (.int (2 : Int32)), .val (.int v1_200), .val (.int v1_201), .val (.int v1_202), .val (.ref b203), .val (.ref b208), .val (.ref b212), .val (.int (if (0 : Int32) = (2 : Int32) then (1 : Int32) else 0)), .unset, .unset, .unset] []))
        refine Go.step (fun _ k => XS.iconst X_219.here hx rfl (hb hby at_158) k) ?_
        show Go p e below _ (T_219.setTop (mkF m 159 #[.val (.int p0), .val (.int p1), .val (.int p2), .val (.int p3), .val (.int (2 : Int32)), .val (.int v1_200), .val (.int v1_201), .val (.int v1_202), .val (.ref b203), .val (.ref b208), .val (.ref b212), .val (.int (if (0 : Int32) = (2 : Int32) then (1 : Int32) else 0)), .unset, .unset, .unset] [(.int (1 : Int32))]))
        refine Go.step (fun _ k => XS.goto X_219.here hx rfl (pc0 := 159) (pc' := 163) rfl (hb hby at_159) (by decide) (by decide) k) ?_
        show Go p e below _ (T_219.setTop (mkF m 163 #[.val (.int p0), .val (.int p1), .val (.int p2), .val (.int p3), .val (.int (2 : Int32)), .val (.int v1_200), .val (.int v1_201), .val (.int v1_202), .val (.ref b203), .val (.ref b208), .val (.ref b212), .val (.int (if (0 : Int32) = (2 : Int32) then (1 : Int32) else 0)), .unset, .unset, .unset] [(.int (1 : Int32))]))
        refine Go.step (fun _ k => XS.istore X_219.here hx rfl (hb hby at_163) rfl (l' := #[.val (.int p0), .val (.int p1), .val (.int p2), .val (.int p3), .val (.int (2 : Int32)), .val (.int v1_200), .val (.int v1_201), .val (.int v1_202), .val (.ref b203), .val (.ref b208), .val (.ref b212), .val (.int (if (0 : Int32) = (2 : Int32) then (1 : Int32) else 0)), .val (.int (1 : Int32)), .unset, .unset]) rfl k) ?_
        show Go p e below _ (T_219.setTop (mkF m 165 #[.val (.int p0), .val (.int p1), .val (.int p2), .val (.int p3), .val (.int (2 : Int32)), .val (.int v1_200), .val (.int v1_201), .val (.int v1_202), .val (.ref b203), .val (.ref b208), .val (.ref b212), .val (.int (if (0 : Int32) = (2 : Int32) then (1 : Int32) else 0)), .val (.int (1 : Int32)), .unset, .unset] []))
        refine Go.step (fun _ k => XS.aload X_219.here hx rfl (hb hby at_165) rfl rfl k) ?_
        show Go p e below _ (T_219.setTop (mkF m 167 #[.val (.int p0), .val (.int p1), .val (.int p2), .val (.int p3), .val (.int (2 : Int32)), .val (.int v1_200), .val (.int v1_201), .val (.int v1_202), .val (.ref b203), .val (.ref b208), .val (.ref b212), .val (.int (if (0 : Int32) = (2 : Int32) then (1 : Int32) else 0)), .val (.int (1 : Int32)), .unset, .unset] [(.ref b212)]))
        have f220 : Str Z (T_211.heap).size T_217.heap b208 ([v1_200, v1_201] : List Int32) := (f214.keep K_217 (allS (Nat.le_trans (Nat.le_refl _) ge_212) all0))
        have f222 : Exa Z T_217.heap b212 "com/example/sigyn/sigyn/sip/SipScanner" := (f216.keep K_217)
        obtain ⟨v_221, T_221, L_221, X_221, hQ_221, st_221⟩ := goV X_219 hx hZ (y := ({ cls := "com/example/sigyn/sigyn/sip/SipScanner", name := "atEnd", desc := "()Z" } : Jvm.MethodName)) (z := ({ cls := "com/example/sigyn/sigyn/sip/SipScanner", name := "atEnd", desc := "()Z" } : Jvm.MethodName)) hown (wd_35 hw) (wd_36 hw) (notFace_of_selects (args := #[]) (mvT hZ (wd_38 hw))) (wd_38 hw) (wd_37 hw) (by decide) (backOf (W := 0) (rm_atEnd l Z a0 hw zc vfm (b212) (v1_217) (b208) (([v1_200, v1_201] : List Int32)) ((2 : Int32)) T_217.heap n0 (Nat.le_trans Z0 KP_217.1) u0_217 u1_217 (f220.mono (Nat.le_trans le_212 (Nat.le_trans le_213 le_217))) rfl hSt O_217) hZ (wd_39 hw) (wd_28 hw) (by decide) (by decide)) e_219 f222 (g := (mkF m 167 #[.val (.int p0), .val (.int p1), .val (.int p2), .val (.int p3), .val (.int (2 : Int32)), .val (.int v1_200), .val (.int v1_201), .val (.int v1_202), .val (.ref b203), .val (.ref b208), .val (.ref b212), .val (.int (if (0 : Int32) = (2 : Int32) then (1 : Int32) else 0)), .val (.int (1 : Int32)), .unset, .unset] [(.ref b212)])) rfl (by rw [hml]; rfl) (argsL := []) (rest := []) rfl (lenOf pd_6 rfl) rfl (by show 2 * 0 + _ ≤ _; exact Nat.le_of_eq rfl) (hb hby at_167) (by decide) (by decide)
        obtain ⟨rfl, Nq_221, e_221⟩ := hQ_221
        have N_221 := Fr.app N_219 Nq_221
        refine Go.step st_221 ?_
        show Go p e below _ (T_221.setTop (mkF m 170 #[.val (.int p0), .val (.int p1), .val (.int p2), .val (.int p3), .val (.int (2 : Int32)), .val (.int v1_200), .val (.int v1_201), .val (.int v1_202), .val (.ref b203), .val (.ref b208), .val (.ref b212), .val (.int (if (0 : Int32) = (2 : Int32) then (1 : Int32) else 0)), .val (.int (1 : Int32)), .unset, .unset] [(.int (if v1_217 = (2 : Int32) then (1 : Int32) else 0))]))
        refine Go.step (fun _ k => XS.istore X_221.here hx rfl (hb hby at_170) rfl (l' := #[.val (.int p0), .val (.int p1), .val (.int p2), .val (.int p3), .val (.int (2 : Int32)), .val (.int v1_200), .val (.int v1_201), .val (.int v1_202), .val (.ref b203), .val (.ref b208), .val (.ref b212), .val (.int (if (0 : Int32) = (2 : Int32) then (1 : Int32) else 0)), .val (.int (1 : Int32)), .val (.int (if v1_217 = (2 : Int32) then (1 : Int32) else 0)), .unset]) rfl k) ?_
        show Go p e below _ (T_221.setTop (mkF m 172 #[.val (.int p0), .val (.int p1), .val (.int p2), .val (.int p3), .val (.int (2 : Int32)), .val (.int v1_200), .val (.int v1_201), .val (.int v1_202), .val (.ref b203), .val (.ref b208), .val (.ref b212), .val (.int (if (0 : Int32) = (2 : Int32) then (1 : Int32) else 0)), .val (.int (1 : Int32)), .val (.int (if v1_217 = (2 : Int32) then (1 : Int32) else 0)), .unset] []))
        refine Go.step (fun _ k => XS.aload X_221.here hx rfl (hb hby at_172) rfl rfl k) ?_
        show Go p e below _ (T_221.setTop (mkF m 174 #[.val (.int p0), .val (.int p1), .val (.int p2), .val (.int p3), .val (.int (2 : Int32)), .val (.int v1_200), .val (.int v1_201), .val (.int v1_202), .val (.ref b203), .val (.ref b208), .val (.ref b212), .val (.int (if (0 : Int32) = (2 : Int32) then (1 : Int32) else 0)), .val (.int (1 : Int32)), .val (.int (if v1_217 = (2 : Int32) then (1 : Int32) else 0)), .unset] [(.ref b212)]))
        obtain ⟨v_223, T_223, L_223, X_223, hQ_223, st_223⟩ := goV X_221 hx hZ (y := ({ cls := "com/example/sigyn/sigyn/sip/SipScanner", name := "atEnd", desc := "()Z" } : Jvm.MethodName)) (z := ({ cls := "com/example/sigyn/sigyn/sip/SipScanner", name := "atEnd", desc := "()Z" } : Jvm.MethodName)) hown (wd_35 hw) (wd_36 hw) (notFace_of_selects (args := #[]) (mvT hZ (wd_38 hw))) (wd_38 hw) (wd_37 hw) (by decide) (backOf (W := 0) (rm_atEnd l Z a0 hw zc vfm (b212) (v1_217) (b208) (([v1_200, v1_201] : List Int32)) ((2 : Int32)) T_217.heap n0 (Nat.le_trans Z0 KP_217.1) u0_217 u1_217 (f220.mono (Nat.le_trans le_212 (Nat.le_trans le_213 le_217))) rfl hSt O_217) hZ (wd_39 hw) (wd_28 hw) (by decide) (by decide)) e_221 f222 (g := (mkF m 174 #[.val (.int p0), .val (.int p1), .val (.int p2), .val (.int p3), .val (.int (2 : Int32)), .val (.int v1_200), .val (.int v1_201), .val (.int v1_202), .val (.ref b203), .val (.ref b208), .val (.ref b212), .val (.int (if (0 : Int32) = (2 : Int32) then (1 : Int32) else 0)), .val (.int (1 : Int32)), .val (.int (if v1_217 = (2 : Int32) then (1 : Int32) else 0)), .unset] [(.ref b212)])) rfl (by rw [hml]; rfl) (argsL := []) (rest := []) rfl (lenOf pd_6 rfl) rfl (by show 2 * 0 + _ ≤ _; exact Nat.le_of_eq rfl) (hb hby at_174) (by decide) (by decide)
        obtain ⟨rfl, Nq_223, e_223⟩ := hQ_223
        have N_223 := Fr.app N_221 Nq_223
        refine Go.step st_223 ?_
        show Go p e below _ (T_223.setTop (mkF m 177 #[.val (.int p0), .val (.int p1), .val (.int p2), .val (.int p3), .val (.int (2 : Int32)), .val (.int v1_200), .val (.int v1_201), .val (.int v1_202), .val (.ref b203), .val (.ref b208), .val (.ref b212), .val (.int (if (0 : Int32) = (2 : Int32) then (1 : Int32) else 0)), .val (.int (1 : Int32)), .val (.int (if v1_217 = (2 : Int32) then (1 : Int32) else 0)), .unset] [(.int (if v1_217 = (2 : Int32) then (1 : Int32) else 0))]))
        refine Go.step (fun _ k => XS.istore X_223.here hx rfl (hb hby at_177) rfl (l' := #[.val (.int p0), .val (.int p1), .val (.int p2), .val (.int p3), .val (.int (2 : Int32)), .val (.int v1_200), .val (.int v1_201), .val (.int v1_202), .val (.ref b203), .val (.ref b208), .val (.ref b212), .val (.int (if (0 : Int32) = (2 : Int32) then (1 : Int32) else 0)), .val (.int (1 : Int32)), .val (.int (if v1_217 = (2 : Int32) then (1 : Int32) else 0)), .val (.int (if v1_217 = (2 : Int32) then (1 : Int32) else 0))]) rfl k) ?_
        show Go p e below _ (T_223.setTop (mkF m 179 #[.val (.int p0), .val (.int p1), .val (.int p2), .val (.int p3), .val (.int (2 : Int32)), .val (.int v1_200), .val (.int v1_201), .val (.int v1_202), .val (.ref b203), .val (.ref b208), .val (.ref b212), .val (.int (if (0 : Int32) = (2 : Int32) then (1 : Int32) else 0)), .val (.int (1 : Int32)), .val (.int (if v1_217 = (2 : Int32) then (1 : Int32) else 0)), .val (.int (if v1_217 = (2 : Int32) then (1 : Int32) else 0))] []))
        refine Go.step (fun _ k => XS.iload X_223.here hx rfl (hb hby at_179) rfl  k) ?_
        show Go p e below _ (T_223.setTop (mkF m 181 #[.val (.int p0), .val (.int p1), .val (.int p2), .val (.int p3), .val (.int (2 : Int32)), .val (.int v1_200), .val (.int v1_201), .val (.int v1_202), .val (.ref b203), .val (.ref b208), .val (.ref b212), .val (.int (if (0 : Int32) = (2 : Int32) then (1 : Int32) else 0)), .val (.int (1 : Int32)), .val (.int (if v1_217 = (2 : Int32) then (1 : Int32) else 0)), .val (.int (if v1_217 = (2 : Int32) then (1 : Int32) else 0))] [(.int (if v1_217 = (2 : Int32) then (1 : Int32) else 0))]))
        refine Go.step (fun _ k => XS.iload X_223.here hx rfl (hb hby at_181) rfl  k) ?_
        show Go p e below _ (T_223.setTop (mkF m 183 #[.val (.int p0), .val (.int p1), .val (.int p2), .val (.int p3), .val (.int (2 : Int32)), .val (.int v1_200), .val (.int v1_201), .val (.int v1_202), .val (.ref b203), .val (.ref b208), .val (.ref b212), .val (.int (if (0 : Int32) = (2 : Int32) then (1 : Int32) else 0)), .val (.int (1 : Int32)), .val (.int (if v1_217 = (2 : Int32) then (1 : Int32) else 0)), .val (.int (if v1_217 = (2 : Int32) then (1 : Int32) else 0))] [(.int (1 : Int32)), (.int (if v1_217 = (2 : Int32) then (1 : Int32) else 0))]))
        refine Go.step (fun _ k => XS.icmpNo X_223.here hx rfl (hb hby at_183) rfl (teq ((if_pos (hv.mpr ⟨z0, z1⟩)) : (if v1_217 = (2 : Int32) then (1 : Int32) else 0) = (1 : Int32))).2 k) ?_
        show Go p e below _ (T_223.setTop (mkF m 186 #[.val (.int p0), .val (.int p1), .val (.int p2), .val (.int p3), .val (.int (2 : Int32)), .val (.int v1_200), .val (.int v1_201), .val (.int v1_202), .val (.ref b203), .val (.ref b208), .val (.ref b212), .val (.int (if (0 : Int32) = (2 : Int32) then (1 : Int32) else 0)), .val (.int (1 : Int32)), .val (.int (if v1_217 = (2 : Int32) then (1 : Int32) else 0)), .val (.int (if v1_217 = (2 : Int32) then (1 : Int32) else 0))] []))
        refine Go.step (fun _ k => XS.iload X_223.here hx rfl (hb hby at_186) rfl  k) ?_
        show Go p e below _ (T_223.setTop (mkF m 188 #[.val (.int p0), .val (.int p1), .val (.int p2), .val (.int p3), .val (.int (2 : Int32)), .val (.int v1_200), .val (.int v1_201), .val (.int v1_202), .val (.ref b203), .val (.ref b208), .val (.ref b212), .val (.int (if (0 : Int32) = (2 : Int32) then (1 : Int32) else 0)), .val (.int (1 : Int32)), .val (.int (if v1_217 = (2 : Int32) then (1 : Int32) else 0)), .val (.int (if v1_217 = (2 : Int32) then (1 : Int32) else 0))] [(.int (if v1_217 = (2 : Int32) then (1 : Int32) else 0))]))
        refine Go.step (fun _ k => XS.iload X_223.here hx rfl (hb hby at_188) rfl  k) ?_
        show Go p e below _ (T_223.setTop (mkF m 190 #[.val (.int p0), .val (.int p1), .val (.int p2), .val (.int p3), .val (.int (2 : Int32)), .val (.int v1_200), .val (.int v1_201), .val (.int v1_202), .val (.ref b203), .val (.ref b208), .val (.ref b212), .val (.int (if (0 : Int32) = (2 : Int32) then (1 : Int32) else 0)), .val (.int (1 : Int32)), .val (.int (if v1_217 = (2 : Int32) then (1 : Int32) else 0)), .val (.int (if v1_217 = (2 : Int32) then (1 : Int32) else 0))] [(.int (if v1_217 = (2 : Int32) then (1 : Int32) else 0)), (.int (if v1_217 = (2 : Int32) then (1 : Int32) else 0))]))
        refine Go.step (fun _ k => XS.icmpNo X_223.here hx rfl (hb hby at_190) rfl (teq (rfl : (if v1_217 = (2 : Int32) then (1 : Int32) else 0) = (if v1_217 = (2 : Int32) then (1 : Int32) else 0))).2 k) ?_
        show Go p e below _ (T_223.setTop (mkF m 193 #[.val (.int p0), .val (.int p1), .val (.int p2), .val (.int p3), .val (.int (2 : Int32)), .val (.int v1_200), .val (.int v1_201), .val (.int v1_202), .val (.ref b203), .val (.ref b208), .val (.ref b212), .val (.int (if (0 : Int32) = (2 : Int32) then (1 : Int32) else 0)), .val (.int (1 : Int32)), .val (.int (if v1_217 = (2 : Int32) then (1 : Int32) else 0)), .val (.int (if v1_217 = (2 : Int32) then (1 : Int32) else 0))] []))
        refine Go.step (fun _ k => XS.iconst X_223.here hx rfl (hb hby at_193) k) ?_
        show Go p e below _ (T_223.setTop (mkF m 194 #[.val (.int p0), .val (.int p1), .val (.int p2), .val (.int p3), .val (.int (2 : Int32)), .val (.int v1_200), .val (.int v1_201), .val (.int v1_202), .val (.ref b203), .val (.ref b208), .val (.ref b212), .val (.int (if (0 : Int32) = (2 : Int32) then (1 : Int32) else 0)), .val (.int (1 : Int32)), .val (.int (if v1_217 = (2 : Int32) then (1 : Int32) else 0)), .val (.int (if v1_217 = (2 : Int32) then (1 : Int32) else 0))] [(.int (1 : Int32))]))
        refine Go.step (fun _ k => XS.goto X_223.here hx rfl (pc0 := 194) (pc' := 198) rfl (hb hby at_194) (by decide) (by decide) k) ?_
        show Go p e below _ (T_223.setTop (mkF m 198 #[.val (.int p0), .val (.int p1), .val (.int p2), .val (.int p3), .val (.int (2 : Int32)), .val (.int v1_200), .val (.int v1_201), .val (.int v1_202), .val (.ref b203), .val (.ref b208), .val (.ref b212), .val (.int (if (0 : Int32) = (2 : Int32) then (1 : Int32) else 0)), .val (.int (1 : Int32)), .val (.int (if v1_217 = (2 : Int32) then (1 : Int32) else 0)), .val (.int (if v1_217 = (2 : Int32) then (1 : Int32) else 0))] [(.int (1 : Int32))]))
        exact Go.retVW X_223 e_223 hS0 (Nat.le_trans hk0 (Nat.le_trans le_203 (Nat.le_trans le_204 (Nat.le_trans le_206 (Nat.le_trans le_208 (Nat.le_trans le_211 (Nat.le_trans le_212 (Nat.le_trans le_213 le_217)))))))) hZ hEL hh0 CR_217 hx hlk hret rfl (Or.inl ⟨rfl, Or.inr (Or.inl rfl), _, rfl⟩) (hb hby at_198) (by decide) (by decide) (by rw [e_223]; exact ⟨rfl, N_223⟩)
      · skip
        refine Go.step (fun _ k => XS.ifYes X_219.here hx rfl (pc0 := 141) (pc' := 162) rfl (hb hby at_141) rfl ((if0 _ _).trans (teq (b01_eq z1)).1) (by decide) (by decide) k) ?_
        show Go p e below _ (T_219.setTop (mkF m 162 #[.val (.int p0), .val (.int p1), .val (.int p2), .val (.int p3), .val (.int (2 : Int32)), .val (.int v1_200), .val (.int v1_201), .val (.int v1_202), .val (.ref b203), .val (.ref b208), .val (.ref b212), .val (.int (if (0 : Int32) = (2 : Int32) then (1 : Int32) else 0)), .unset, .unset, .unset] []))
        refine Go.step (fun _ k => XS.iconst X_219.here hx rfl (hb hby at_162) k) ?_
        show Go p e below _ (T_219.setTop (mkF m 163 #[.val (.int p0), .val (.int p1), .val (.int p2), .val (.int p3), .val (.int (2 : Int32)), .val (.int v1_200), .val (.int v1_201), .val (.int v1_202), .val (.ref b203), .val (.ref b208), .val (.ref b212), .val (.int (if (0 : Int32) = (2 : Int32) then (1 : Int32) else 0)), .unset, .unset, .unset] [(.int (0 : Int32))]))
        refine Go.step (fun _ k => XS.istore X_219.here hx rfl (hb hby at_163) rfl (l' := #[.val (.int p0), .val (.int p1), .val (.int p2), .val (.int p3), .val (.int (2 : Int32)), .val (.int v1_200), .val (.int v1_201), .val (.int v1_202), .val (.ref b203), .val (.ref b208), .val (.ref b212), .val (.int (if (0 : Int32) = (2 : Int32) then (1 : Int32) else 0)), .val (.int (0 : Int32)), .unset, .unset]) rfl k) ?_
        show Go p e below _ (T_219.setTop (mkF m 165 #[.val (.int p0), .val (.int p1), .val (.int p2), .val (.int p3), .val (.int (2 : Int32)), .val (.int v1_200), .val (.int v1_201), .val (.int v1_202), .val (.ref b203), .val (.ref b208), .val (.ref b212), .val (.int (if (0 : Int32) = (2 : Int32) then (1 : Int32) else 0)), .val (.int (0 : Int32)), .unset, .unset] []))
        refine Go.step (fun _ k => XS.aload X_219.here hx rfl (hb hby at_165) rfl rfl k) ?_
        show Go p e below _ (T_219.setTop (mkF m 167 #[.val (.int p0), .val (.int p1), .val (.int p2), .val (.int p3), .val (.int (2 : Int32)), .val (.int v1_200), .val (.int v1_201), .val (.int v1_202), .val (.ref b203), .val (.ref b208), .val (.ref b212), .val (.int (if (0 : Int32) = (2 : Int32) then (1 : Int32) else 0)), .val (.int (0 : Int32)), .unset, .unset] [(.ref b212)]))
        have f224 : Str Z (T_211.heap).size T_217.heap b208 ([v1_200, v1_201] : List Int32) := (f214.keep K_217 (allS (Nat.le_trans (Nat.le_refl _) ge_212) all0))
        have f226 : Exa Z T_217.heap b212 "com/example/sigyn/sigyn/sip/SipScanner" := (f216.keep K_217)
        obtain ⟨v_225, T_225, L_225, X_225, hQ_225, st_225⟩ := goV X_219 hx hZ (y := ({ cls := "com/example/sigyn/sigyn/sip/SipScanner", name := "atEnd", desc := "()Z" } : Jvm.MethodName)) (z := ({ cls := "com/example/sigyn/sigyn/sip/SipScanner", name := "atEnd", desc := "()Z" } : Jvm.MethodName)) hown (wd_35 hw) (wd_36 hw) (notFace_of_selects (args := #[]) (mvT hZ (wd_38 hw))) (wd_38 hw) (wd_37 hw) (by decide) (backOf (W := 0) (rm_atEnd l Z a0 hw zc vfm (b212) (v1_217) (b208) (([v1_200, v1_201] : List Int32)) ((2 : Int32)) T_217.heap n0 (Nat.le_trans Z0 KP_217.1) u0_217 u1_217 (f224.mono (Nat.le_trans le_212 (Nat.le_trans le_213 le_217))) rfl hSt O_217) hZ (wd_39 hw) (wd_28 hw) (by decide) (by decide)) e_219 f226 (g := (mkF m 167 #[.val (.int p0), .val (.int p1), .val (.int p2), .val (.int p3), .val (.int (2 : Int32)), .val (.int v1_200), .val (.int v1_201), .val (.int v1_202), .val (.ref b203), .val (.ref b208), .val (.ref b212), .val (.int (if (0 : Int32) = (2 : Int32) then (1 : Int32) else 0)), .val (.int (0 : Int32)), .unset, .unset] [(.ref b212)])) rfl (by rw [hml]; rfl) (argsL := []) (rest := []) rfl (lenOf pd_6 rfl) rfl (by show 2 * 0 + _ ≤ _; exact Nat.le_of_eq rfl) (hb hby at_167) (by decide) (by decide)
        obtain ⟨rfl, Nq_225, e_225⟩ := hQ_225
        have N_225 := Fr.app N_219 Nq_225
        refine Go.step st_225 ?_
        show Go p e below _ (T_225.setTop (mkF m 170 #[.val (.int p0), .val (.int p1), .val (.int p2), .val (.int p3), .val (.int (2 : Int32)), .val (.int v1_200), .val (.int v1_201), .val (.int v1_202), .val (.ref b203), .val (.ref b208), .val (.ref b212), .val (.int (if (0 : Int32) = (2 : Int32) then (1 : Int32) else 0)), .val (.int (0 : Int32)), .unset, .unset] [(.int (if v1_217 = (2 : Int32) then (1 : Int32) else 0))]))
        refine Go.step (fun _ k => XS.istore X_225.here hx rfl (hb hby at_170) rfl (l' := #[.val (.int p0), .val (.int p1), .val (.int p2), .val (.int p3), .val (.int (2 : Int32)), .val (.int v1_200), .val (.int v1_201), .val (.int v1_202), .val (.ref b203), .val (.ref b208), .val (.ref b212), .val (.int (if (0 : Int32) = (2 : Int32) then (1 : Int32) else 0)), .val (.int (0 : Int32)), .val (.int (if v1_217 = (2 : Int32) then (1 : Int32) else 0)), .unset]) rfl k) ?_
        show Go p e below _ (T_225.setTop (mkF m 172 #[.val (.int p0), .val (.int p1), .val (.int p2), .val (.int p3), .val (.int (2 : Int32)), .val (.int v1_200), .val (.int v1_201), .val (.int v1_202), .val (.ref b203), .val (.ref b208), .val (.ref b212), .val (.int (if (0 : Int32) = (2 : Int32) then (1 : Int32) else 0)), .val (.int (0 : Int32)), .val (.int (if v1_217 = (2 : Int32) then (1 : Int32) else 0)), .unset] []))
        refine Go.step (fun _ k => XS.aload X_225.here hx rfl (hb hby at_172) rfl rfl k) ?_
        show Go p e below _ (T_225.setTop (mkF m 174 #[.val (.int p0), .val (.int p1), .val (.int p2), .val (.int p3), .val (.int (2 : Int32)), .val (.int v1_200), .val (.int v1_201), .val (.int v1_202), .val (.ref b203), .val (.ref b208), .val (.ref b212), .val (.int (if (0 : Int32) = (2 : Int32) then (1 : Int32) else 0)), .val (.int (0 : Int32)), .val (.int (if v1_217 = (2 : Int32) then (1 : Int32) else 0)), .unset] [(.ref b212)]))
        obtain ⟨v_227, T_227, L_227, X_227, hQ_227, st_227⟩ := goV X_225 hx hZ (y := ({ cls := "com/example/sigyn/sigyn/sip/SipScanner", name := "atEnd", desc := "()Z" } : Jvm.MethodName)) (z := ({ cls := "com/example/sigyn/sigyn/sip/SipScanner", name := "atEnd", desc := "()Z" } : Jvm.MethodName)) hown (wd_35 hw) (wd_36 hw) (notFace_of_selects (args := #[]) (mvT hZ (wd_38 hw))) (wd_38 hw) (wd_37 hw) (by decide) (backOf (W := 0) (rm_atEnd l Z a0 hw zc vfm (b212) (v1_217) (b208) (([v1_200, v1_201] : List Int32)) ((2 : Int32)) T_217.heap n0 (Nat.le_trans Z0 KP_217.1) u0_217 u1_217 (f224.mono (Nat.le_trans le_212 (Nat.le_trans le_213 le_217))) rfl hSt O_217) hZ (wd_39 hw) (wd_28 hw) (by decide) (by decide)) e_225 f226 (g := (mkF m 174 #[.val (.int p0), .val (.int p1), .val (.int p2), .val (.int p3), .val (.int (2 : Int32)), .val (.int v1_200), .val (.int v1_201), .val (.int v1_202), .val (.ref b203), .val (.ref b208), .val (.ref b212), .val (.int (if (0 : Int32) = (2 : Int32) then (1 : Int32) else 0)), .val (.int (0 : Int32)), .val (.int (if v1_217 = (2 : Int32) then (1 : Int32) else 0)), .unset] [(.ref b212)])) rfl (by rw [hml]; rfl) (argsL := []) (rest := []) rfl (lenOf pd_6 rfl) rfl (by show 2 * 0 + _ ≤ _; exact Nat.le_of_eq rfl) (hb hby at_174) (by decide) (by decide)
        obtain ⟨rfl, Nq_227, e_227⟩ := hQ_227
        have N_227 := Fr.app N_225 Nq_227
        refine Go.step st_227 ?_
        show Go p e below _ (T_227.setTop (mkF m 177 #[.val (.int p0), .val (.int p1), .val (.int p2), .val (.int p3), .val (.int (2 : Int32)), .val (.int v1_200), .val (.int v1_201), .val (.int v1_202), .val (.ref b203), .val (.ref b208), .val (.ref b212), .val (.int (if (0 : Int32) = (2 : Int32) then (1 : Int32) else 0)), .val (.int (0 : Int32)), .val (.int (if v1_217 = (2 : Int32) then (1 : Int32) else 0)), .unset] [(.int (if v1_217 = (2 : Int32) then (1 : Int32) else 0))]))
        refine Go.step (fun _ k => XS.istore X_227.here hx rfl (hb hby at_177) rfl (l' := #[.val (.int p0), .val (.int p1), .val (.int p2), .val (.int p3), .val (.int (2 : Int32)), .val (.int v1_200), .val (.int v1_201), .val (.int v1_202), .val (.ref b203), .val (.ref b208), .val (.ref b212), .val (.int (if (0 : Int32) = (2 : Int32) then (1 : Int32) else 0)), .val (.int (0 : Int32)), .val (.int (if v1_217 = (2 : Int32) then (1 : Int32) else 0)), .val (.int (if v1_217 = (2 : Int32) then (1 : Int32) else 0))]) rfl k) ?_
        show Go p e below _ (T_227.setTop (mkF m 179 #[.val (.int p0), .val (.int p1), .val (.int p2), .val (.int p3), .val (.int (2 : Int32)), .val (.int v1_200), .val (.int v1_201), .val (.int v1_202), .val (.ref b203), .val (.ref b208), .val (.ref b212), .val (.int (if (0 : Int32) = (2 : Int32) then (1 : Int32) else 0)), .val (.int (0 : Int32)), .val (.int (if v1_217 = (2 : Int32) then (1 : Int32) else 0)), .val (.int (if v1_217 = (2 : Int32) then (1 : Int32) else 0))] []))
        refine Go.step (fun _ k => XS.iload X_227.here hx rfl (hb hby at_179) rfl  k) ?_
        show Go p e below _ (T_227.setTop (mkF m 181 #[.val (.int p0), .val (.int p1), .val (.int p2), .val (.int p3), .val (.int (2 : Int32)), .val (.int v1_200), .val (.int v1_201), .val (.int v1_202), .val (.ref b203), .val (.ref b208), .val (.ref b212), .val (.int (if (0 : Int32) = (2 : Int32) then (1 : Int32) else 0)), .val (.int (0 : Int32)), .val (.int (if v1_217 = (2 : Int32) then (1 : Int32) else 0)), .val (.int (if v1_217 = (2 : Int32) then (1 : Int32) else 0))] [(.int (if v1_217 = (2 : Int32) then (1 : Int32) else 0))]))
        refine Go.step (fun _ k => XS.iload X_227.here hx rfl (hb hby at_181) rfl  k) ?_
        show Go p e below _ (T_227.setTop (mkF m 183 #[.val (.int p0), .val (.int p1), .val (.int p2), .val (.int p3), .val (.int (2 : Int32)), .val (.int v1_200), .val (.int v1_201), .val (.int v1_202), .val (.ref b203), .val (.ref b208), .val (.ref b212), .val (.int (if (0 : Int32) = (2 : Int32) then (1 : Int32) else 0)), .val (.int (0 : Int32)), .val (.int (if v1_217 = (2 : Int32) then (1 : Int32) else 0)), .val (.int (if v1_217 = (2 : Int32) then (1 : Int32) else 0))] [(.int (0 : Int32)), (.int (if v1_217 = (2 : Int32) then (1 : Int32) else 0))]))
        refine Go.step (fun _ k => XS.icmpNo X_227.here hx rfl (hb hby at_183) rfl (teq ((if_neg (fun q => absurd (hv.mp q).2 z1)) : (if v1_217 = (2 : Int32) then (1 : Int32) else 0) = (0 : Int32))).2 k) ?_
        show Go p e below _ (T_227.setTop (mkF m 186 #[.val (.int p0), .val (.int p1), .val (.int p2), .val (.int p3), .val (.int (2 : Int32)), .val (.int v1_200), .val (.int v1_201), .val (.int v1_202), .val (.ref b203), .val (.ref b208), .val (.ref b212), .val (.int (if (0 : Int32) = (2 : Int32) then (1 : Int32) else 0)), .val (.int (0 : Int32)), .val (.int (if v1_217 = (2 : Int32) then (1 : Int32) else 0)), .val (.int (if v1_217 = (2 : Int32) then (1 : Int32) else 0))] []))
        refine Go.step (fun _ k => XS.iload X_227.here hx rfl (hb hby at_186) rfl  k) ?_
        show Go p e below _ (T_227.setTop (mkF m 188 #[.val (.int p0), .val (.int p1), .val (.int p2), .val (.int p3), .val (.int (2 : Int32)), .val (.int v1_200), .val (.int v1_201), .val (.int v1_202), .val (.ref b203), .val (.ref b208), .val (.ref b212), .val (.int (if (0 : Int32) = (2 : Int32) then (1 : Int32) else 0)), .val (.int (0 : Int32)), .val (.int (if v1_217 = (2 : Int32) then (1 : Int32) else 0)), .val (.int (if v1_217 = (2 : Int32) then (1 : Int32) else 0))] [(.int (if v1_217 = (2 : Int32) then (1 : Int32) else 0))]))
        refine Go.step (fun _ k => XS.iload X_227.here hx rfl (hb hby at_188) rfl  k) ?_
        show Go p e below _ (T_227.setTop (mkF m 190 #[.val (.int p0), .val (.int p1), .val (.int p2), .val (.int p3), .val (.int (2 : Int32)), .val (.int v1_200), .val (.int v1_201), .val (.int v1_202), .val (.ref b203), .val (.ref b208), .val (.ref b212), .val (.int (if (0 : Int32) = (2 : Int32) then (1 : Int32) else 0)), .val (.int (0 : Int32)), .val (.int (if v1_217 = (2 : Int32) then (1 : Int32) else 0)), .val (.int (if v1_217 = (2 : Int32) then (1 : Int32) else 0))] [(.int (if v1_217 = (2 : Int32) then (1 : Int32) else 0)), (.int (if v1_217 = (2 : Int32) then (1 : Int32) else 0))]))
        refine Go.step (fun _ k => XS.icmpNo X_227.here hx rfl (hb hby at_190) rfl (teq (rfl : (if v1_217 = (2 : Int32) then (1 : Int32) else 0) = (if v1_217 = (2 : Int32) then (1 : Int32) else 0))).2 k) ?_
        show Go p e below _ (T_227.setTop (mkF m 193 #[.val (.int p0), .val (.int p1), .val (.int p2), .val (.int p3), .val (.int (2 : Int32)), .val (.int v1_200), .val (.int v1_201), .val (.int v1_202), .val (.ref b203), .val (.ref b208), .val (.ref b212), .val (.int (if (0 : Int32) = (2 : Int32) then (1 : Int32) else 0)), .val (.int (0 : Int32)), .val (.int (if v1_217 = (2 : Int32) then (1 : Int32) else 0)), .val (.int (if v1_217 = (2 : Int32) then (1 : Int32) else 0))] []))
        refine Go.step (fun _ k => XS.iconst X_227.here hx rfl (hb hby at_193) k) ?_
        show Go p e below _ (T_227.setTop (mkF m 194 #[.val (.int p0), .val (.int p1), .val (.int p2), .val (.int p3), .val (.int (2 : Int32)), .val (.int v1_200), .val (.int v1_201), .val (.int v1_202), .val (.ref b203), .val (.ref b208), .val (.ref b212), .val (.int (if (0 : Int32) = (2 : Int32) then (1 : Int32) else 0)), .val (.int (0 : Int32)), .val (.int (if v1_217 = (2 : Int32) then (1 : Int32) else 0)), .val (.int (if v1_217 = (2 : Int32) then (1 : Int32) else 0))] [(.int (1 : Int32))]))
        refine Go.step (fun _ k => XS.goto X_227.here hx rfl (pc0 := 194) (pc' := 198) rfl (hb hby at_194) (by decide) (by decide) k) ?_
        show Go p e below _ (T_227.setTop (mkF m 198 #[.val (.int p0), .val (.int p1), .val (.int p2), .val (.int p3), .val (.int (2 : Int32)), .val (.int v1_200), .val (.int v1_201), .val (.int v1_202), .val (.ref b203), .val (.ref b208), .val (.ref b212), .val (.int (if (0 : Int32) = (2 : Int32) then (1 : Int32) else 0)), .val (.int (0 : Int32)), .val (.int (if v1_217 = (2 : Int32) then (1 : Int32) else 0)), .val (.int (if v1_217 = (2 : Int32) then (1 : Int32) else 0))] [(.int (1 : Int32))]))
        exact Go.retVW X_227 e_227 hS0 (Nat.le_trans hk0 (Nat.le_trans le_203 (Nat.le_trans le_204 (Nat.le_trans le_206 (Nat.le_trans le_208 (Nat.le_trans le_211 (Nat.le_trans le_212 (Nat.le_trans le_213 le_217)))))))) hZ hEL hh0 CR_217 hx hlk hret rfl (Or.inl ⟨rfl, Or.inr (Or.inl rfl), _, rfl⟩) (hb hby at_198) (by decide) (by decide) (by rw [e_227]; exact ⟨rfl, N_227⟩)
    · skip
      refine Go.step (fun _ k => XS.ifYes X_218.here hx rfl (pc0 := 127) (pc' := 162) rfl (hb hby at_127) rfl ((if0 _ _).trans (teq (b01_eq z0)).1) (by decide) (by decide) k) ?_
      show Go p e below _ (T_218.setTop (mkF m 162 #[.val (.int p0), .val (.int p1), .val (.int p2), .val (.int p3), .val (.int (2 : Int32)), .val (.int v1_200), .val (.int v1_201), .val (.int v1_202), .val (.ref b203), .val (.ref b208), .val (.ref b212), .val (.int (if (0 : Int32) = (2 : Int32) then (1 : Int32) else 0)), .unset, .unset, .unset] []))
      refine Go.step (fun _ k => XS.iconst X_218.here hx rfl (hb hby at_162) k) ?_
      show Go p e below _ (T_218.setTop (mkF m 163 #[.val (.int p0), .val (.int p1), .val (.int p2), .val (.int p3), .val (.int (2 : Int32)), .val (.int v1_200), .val (.int v1_201), .val (.int v1_202), .val (.ref b203), .val (.ref b208), .val (.ref b212), .val (.int (if (0 : Int32) = (2 : Int32) then (1 : Int32) else 0)), .unset, .unset, .unset] [(.int (0 : Int32))]))
      refine Go.step (fun _ k => XS.istore X_218.here hx rfl (hb hby at_163) rfl (l' := #[.val (.int p0), .val (.int p1), .val (.int p2), .val (.int p3), .val (.int (2 : Int32)), .val (.int v1_200), .val (.int v1_201), .val (.int v1_202), .val (.ref b203), .val (.ref b208), .val (.ref b212), .val (.int (if (0 : Int32) = (2 : Int32) then (1 : Int32) else 0)), .val (.int (0 : Int32)), .unset, .unset]) rfl k) ?_
      show Go p e below _ (T_218.setTop (mkF m 165 #[.val (.int p0), .val (.int p1), .val (.int p2), .val (.int p3), .val (.int (2 : Int32)), .val (.int v1_200), .val (.int v1_201), .val (.int v1_202), .val (.ref b203), .val (.ref b208), .val (.ref b212), .val (.int (if (0 : Int32) = (2 : Int32) then (1 : Int32) else 0)), .val (.int (0 : Int32)), .unset, .unset] []))
      refine Go.step (fun _ k => XS.aload X_218.here hx rfl (hb hby at_165) rfl rfl k) ?_
      show Go p e below _ (T_218.setTop (mkF m 167 #[.val (.int p0), .val (.int p1), .val (.int p2), .val (.int p3), .val (.int (2 : Int32)), .val (.int v1_200), .val (.int v1_201), .val (.int v1_202), .val (.ref b203), .val (.ref b208), .val (.ref b212), .val (.int (if (0 : Int32) = (2 : Int32) then (1 : Int32) else 0)), .val (.int (0 : Int32)), .unset, .unset] [(.ref b212)]))
      have f228 : Str Z (T_211.heap).size T_217.heap b208 ([v1_200, v1_201] : List Int32) := (f214.keep K_217 (allS (Nat.le_trans (Nat.le_refl _) ge_212) all0))
      have f230 : Exa Z T_217.heap b212 "com/example/sigyn/sigyn/sip/SipScanner" := (f216.keep K_217)
      obtain ⟨v_229, T_229, L_229, X_229, hQ_229, st_229⟩ := goV X_218 hx hZ (y := ({ cls := "com/example/sigyn/sigyn/sip/SipScanner", name := "atEnd", desc := "()Z" } : Jvm.MethodName)) (z := ({ cls := "com/example/sigyn/sigyn/sip/SipScanner", name := "atEnd", desc := "()Z" } : Jvm.MethodName)) hown (wd_35 hw) (wd_36 hw) (notFace_of_selects (args := #[]) (mvT hZ (wd_38 hw))) (wd_38 hw) (wd_37 hw) (by decide) (backOf (W := 0) (rm_atEnd l Z a0 hw zc vfm (b212) (v1_217) (b208) (([v1_200, v1_201] : List Int32)) ((2 : Int32)) T_217.heap n0 (Nat.le_trans Z0 KP_217.1) u0_217 u1_217 (f228.mono (Nat.le_trans le_212 (Nat.le_trans le_213 le_217))) rfl hSt O_217) hZ (wd_39 hw) (wd_28 hw) (by decide) (by decide)) e_218 f230 (g := (mkF m 167 #[.val (.int p0), .val (.int p1), .val (.int p2), .val (.int p3), .val (.int (2 : Int32)), .val (.int v1_200), .val (.int v1_201), .val (.int v1_202), .val (.ref b203), .val (.ref b208), .val (.ref b212), .val (.int (if (0 : Int32) = (2 : Int32) then (1 : Int32) else 0)), .val (.int (0 : Int32)), .unset, .unset] [(.ref b212)])) rfl (by rw [hml]; rfl) (argsL := []) (rest := []) rfl (lenOf pd_6 rfl) rfl (by show 2 * 0 + _ ≤ _; exact Nat.le_of_eq rfl) (hb hby at_167) (by decide) (by decide)
      obtain ⟨rfl, Nq_229, e_229⟩ := hQ_229
      have N_229 := Fr.app N_218 Nq_229
      refine Go.step st_229 ?_
      show Go p e below _ (T_229.setTop (mkF m 170 #[.val (.int p0), .val (.int p1), .val (.int p2), .val (.int p3), .val (.int (2 : Int32)), .val (.int v1_200), .val (.int v1_201), .val (.int v1_202), .val (.ref b203), .val (.ref b208), .val (.ref b212), .val (.int (if (0 : Int32) = (2 : Int32) then (1 : Int32) else 0)), .val (.int (0 : Int32)), .unset, .unset] [(.int (if v1_217 = (2 : Int32) then (1 : Int32) else 0))]))
      refine Go.step (fun _ k => XS.istore X_229.here hx rfl (hb hby at_170) rfl (l' := #[.val (.int p0), .val (.int p1), .val (.int p2), .val (.int p3), .val (.int (2 : Int32)), .val (.int v1_200), .val (.int v1_201), .val (.int v1_202), .val (.ref b203), .val (.ref b208), .val (.ref b212), .val (.int (if (0 : Int32) = (2 : Int32) then (1 : Int32) else 0)), .val (.int (0 : Int32)), .val (.int (if v1_217 = (2 : Int32) then (1 : Int32) else 0)), .unset]) rfl k) ?_
      show Go p e below _ (T_229.setTop (mkF m 172 #[.val (.int p0), .val (.int p1), .val (.int p2), .val (.int p3), .val (.int (2 : Int32)), .val (.int v1_200), .val (.int v1_201), .val (.int v1_202), .val (.ref b203), .val (.ref b208), .val (.ref b212), .val (.int (if (0 : Int32) = (2 : Int32) then (1 : Int32) else 0)), .val (.int (0 : Int32)), .val (.int (if v1_217 = (2 : Int32) then (1 : Int32) else 0)), .unset] []))
      refine Go.step (fun _ k => XS.aload X_229.here hx rfl (hb hby at_172) rfl rfl k) ?_
      show Go p e below _ (T_229.setTop (mkF m 174 #[.val (.int p0), .val (.int p1), .val (.int p2), .val (.int p3), .val (.int (2 : Int32)), .val (.int v1_200), .val (.int v1_201), .val (.int v1_202), .val (.ref b203), .val (.ref b208), .val (.ref b212), .val (.int (if (0 : Int32) = (2 : Int32) then (1 : Int32) else 0)), .val (.int (0 : Int32)), .val (.int (if v1_217 = (2 : Int32) then (1 : Int32) else 0)), .unset] [(.ref b212)]))
      obtain ⟨v_231, T_231, L_231, X_231, hQ_231, st_231⟩ := goV X_229 hx hZ (y := ({ cls := "com/example/sigyn/sigyn/sip/SipScanner", name := "atEnd", desc := "()Z" } : Jvm.MethodName)) (z := ({ cls := "com/example/sigyn/sigyn/sip/SipScanner", name := "atEnd", desc := "()Z" } : Jvm.MethodName)) hown (wd_35 hw) (wd_36 hw) (notFace_of_selects (args := #[]) (mvT hZ (wd_38 hw))) (wd_38 hw) (wd_37 hw) (by decide) (backOf (W := 0) (rm_atEnd l Z a0 hw zc vfm (b212) (v1_217) (b208) (([v1_200, v1_201] : List Int32)) ((2 : Int32)) T_217.heap n0 (Nat.le_trans Z0 KP_217.1) u0_217 u1_217 (f228.mono (Nat.le_trans le_212 (Nat.le_trans le_213 le_217))) rfl hSt O_217) hZ (wd_39 hw) (wd_28 hw) (by decide) (by decide)) e_229 f230 (g := (mkF m 174 #[.val (.int p0), .val (.int p1), .val (.int p2), .val (.int p3), .val (.int (2 : Int32)), .val (.int v1_200), .val (.int v1_201), .val (.int v1_202), .val (.ref b203), .val (.ref b208), .val (.ref b212), .val (.int (if (0 : Int32) = (2 : Int32) then (1 : Int32) else 0)), .val (.int (0 : Int32)), .val (.int (if v1_217 = (2 : Int32) then (1 : Int32) else 0)), .unset] [(.ref b212)])) rfl (by rw [hml]; rfl) (argsL := []) (rest := []) rfl (lenOf pd_6 rfl) rfl (by show 2 * 0 + _ ≤ _; exact Nat.le_of_eq rfl) (hb hby at_174) (by decide) (by decide)
      obtain ⟨rfl, Nq_231, e_231⟩ := hQ_231
      have N_231 := Fr.app N_229 Nq_231
      refine Go.step st_231 ?_
      show Go p e below _ (T_231.setTop (mkF m 177 #[.val (.int p0), .val (.int p1), .val (.int p2), .val (.int p3), .val (.int (2 : Int32)), .val (.int v1_200), .val (.int v1_201), .val (.int v1_202), .val (.ref b203), .val (.ref b208), .val (.ref b212), .val (.int (if (0 : Int32) = (2 : Int32) then (1 : Int32) else 0)), .val (.int (0 : Int32)), .val (.int (if v1_217 = (2 : Int32) then (1 : Int32) else 0)), .unset] [(.int (if v1_217 = (2 : Int32) then (1 : Int32) else 0))]))
      refine Go.step (fun _ k => XS.istore X_231.here hx rfl (hb hby at_177) rfl (l' := #[.val (.int p0), .val (.int p1), .val (.int p2), .val (.int p3), .val (.int (2 : Int32)), .val (.int v1_200), .val (.int v1_201), .val (.int v1_202), .val (.ref b203), .val (.ref b208), .val (.ref b212), .val (.int (if (0 : Int32) = (2 : Int32) then (1 : Int32) else 0)), .val (.int (0 : Int32)), .val (.int (if v1_217 = (2 : Int32) then (1 : Int32) else 0)), .val (.int (if v1_217 = (2 : Int32) then (1 : Int32) else 0))]) rfl k) ?_
      show Go p e below _ (T_231.setTop (mkF m 179 #[.val (.int p0), .val (.int p1), .val (.int p2), .val (.int p3), .val (.int (2 : Int32)), .val (.int v1_200), .val (.int v1_201), .val (.int v1_202), .val (.ref b203), .val (.ref b208), .val (.ref b212), .val (.int (if (0 : Int32) = (2 : Int32) then (1 : Int32) else 0)), .val (.int (0 : Int32)), .val (.int (if v1_217 = (2 : Int32) then (1 : Int32) else 0)), .val (.int (if v1_217 = (2 : Int32) then (1 : Int32) else 0))] []))
      refine Go.step (fun _ k => XS.iload X_231.here hx rfl (hb hby at_179) rfl  k) ?_
      show Go p e below _ (T_231.setTop (mkF m 181 #[.val (.int p0), .val (.int p1), .val (.int p2), .val (.int p3), .val (.int (2 : Int32)), .val (.int v1_200), .val (.int v1_201), .val (.int v1_202), .val (.ref b203), .val (.ref b208), .val (.ref b212), .val (.int (if (0 : Int32) = (2 : Int32) then (1 : Int32) else 0)), .val (.int (0 : Int32)), .val (.int (if v1_217 = (2 : Int32) then (1 : Int32) else 0)), .val (.int (if v1_217 = (2 : Int32) then (1 : Int32) else 0))] [(.int (if v1_217 = (2 : Int32) then (1 : Int32) else 0))]))
      refine Go.step (fun _ k => XS.iload X_231.here hx rfl (hb hby at_181) rfl  k) ?_
      show Go p e below _ (T_231.setTop (mkF m 183 #[.val (.int p0), .val (.int p1), .val (.int p2), .val (.int p3), .val (.int (2 : Int32)), .val (.int v1_200), .val (.int v1_201), .val (.int v1_202), .val (.ref b203), .val (.ref b208), .val (.ref b212), .val (.int (if (0 : Int32) = (2 : Int32) then (1 : Int32) else 0)), .val (.int (0 : Int32)), .val (.int (if v1_217 = (2 : Int32) then (1 : Int32) else 0)), .val (.int (if v1_217 = (2 : Int32) then (1 : Int32) else 0))] [(.int (0 : Int32)), (.int (if v1_217 = (2 : Int32) then (1 : Int32) else 0))]))
      refine Go.step (fun _ k => XS.icmpNo X_231.here hx rfl (hb hby at_183) rfl (teq ((if_neg (fun q => absurd (hv.mp q).1 z0)) : (if v1_217 = (2 : Int32) then (1 : Int32) else 0) = (0 : Int32))).2 k) ?_
      show Go p e below _ (T_231.setTop (mkF m 186 #[.val (.int p0), .val (.int p1), .val (.int p2), .val (.int p3), .val (.int (2 : Int32)), .val (.int v1_200), .val (.int v1_201), .val (.int v1_202), .val (.ref b203), .val (.ref b208), .val (.ref b212), .val (.int (if (0 : Int32) = (2 : Int32) then (1 : Int32) else 0)), .val (.int (0 : Int32)), .val (.int (if v1_217 = (2 : Int32) then (1 : Int32) else 0)), .val (.int (if v1_217 = (2 : Int32) then (1 : Int32) else 0))] []))
      refine Go.step (fun _ k => XS.iload X_231.here hx rfl (hb hby at_186) rfl  k) ?_
      show Go p e below _ (T_231.setTop (mkF m 188 #[.val (.int p0), .val (.int p1), .val (.int p2), .val (.int p3), .val (.int (2 : Int32)), .val (.int v1_200), .val (.int v1_201), .val (.int v1_202), .val (.ref b203), .val (.ref b208), .val (.ref b212), .val (.int (if (0 : Int32) = (2 : Int32) then (1 : Int32) else 0)), .val (.int (0 : Int32)), .val (.int (if v1_217 = (2 : Int32) then (1 : Int32) else 0)), .val (.int (if v1_217 = (2 : Int32) then (1 : Int32) else 0))] [(.int (if v1_217 = (2 : Int32) then (1 : Int32) else 0))]))
      refine Go.step (fun _ k => XS.iload X_231.here hx rfl (hb hby at_188) rfl  k) ?_
      show Go p e below _ (T_231.setTop (mkF m 190 #[.val (.int p0), .val (.int p1), .val (.int p2), .val (.int p3), .val (.int (2 : Int32)), .val (.int v1_200), .val (.int v1_201), .val (.int v1_202), .val (.ref b203), .val (.ref b208), .val (.ref b212), .val (.int (if (0 : Int32) = (2 : Int32) then (1 : Int32) else 0)), .val (.int (0 : Int32)), .val (.int (if v1_217 = (2 : Int32) then (1 : Int32) else 0)), .val (.int (if v1_217 = (2 : Int32) then (1 : Int32) else 0))] [(.int (if v1_217 = (2 : Int32) then (1 : Int32) else 0)), (.int (if v1_217 = (2 : Int32) then (1 : Int32) else 0))]))
      refine Go.step (fun _ k => XS.icmpNo X_231.here hx rfl (hb hby at_190) rfl (teq (rfl : (if v1_217 = (2 : Int32) then (1 : Int32) else 0) = (if v1_217 = (2 : Int32) then (1 : Int32) else 0))).2 k) ?_
      show Go p e below _ (T_231.setTop (mkF m 193 #[.val (.int p0), .val (.int p1), .val (.int p2), .val (.int p3), .val (.int (2 : Int32)), .val (.int v1_200), .val (.int v1_201), .val (.int v1_202), .val (.ref b203), .val (.ref b208), .val (.ref b212), .val (.int (if (0 : Int32) = (2 : Int32) then (1 : Int32) else 0)), .val (.int (0 : Int32)), .val (.int (if v1_217 = (2 : Int32) then (1 : Int32) else 0)), .val (.int (if v1_217 = (2 : Int32) then (1 : Int32) else 0))] []))
      refine Go.step (fun _ k => XS.iconst X_231.here hx rfl (hb hby at_193) k) ?_
      show Go p e below _ (T_231.setTop (mkF m 194 #[.val (.int p0), .val (.int p1), .val (.int p2), .val (.int p3), .val (.int (2 : Int32)), .val (.int v1_200), .val (.int v1_201), .val (.int v1_202), .val (.ref b203), .val (.ref b208), .val (.ref b212), .val (.int (if (0 : Int32) = (2 : Int32) then (1 : Int32) else 0)), .val (.int (0 : Int32)), .val (.int (if v1_217 = (2 : Int32) then (1 : Int32) else 0)), .val (.int (if v1_217 = (2 : Int32) then (1 : Int32) else 0))] [(.int (1 : Int32))]))
      refine Go.step (fun _ k => XS.goto X_231.here hx rfl (pc0 := 194) (pc' := 198) rfl (hb hby at_194) (by decide) (by decide) k) ?_
      show Go p e below _ (T_231.setTop (mkF m 198 #[.val (.int p0), .val (.int p1), .val (.int p2), .val (.int p3), .val (.int (2 : Int32)), .val (.int v1_200), .val (.int v1_201), .val (.int v1_202), .val (.ref b203), .val (.ref b208), .val (.ref b212), .val (.int (if (0 : Int32) = (2 : Int32) then (1 : Int32) else 0)), .val (.int (0 : Int32)), .val (.int (if v1_217 = (2 : Int32) then (1 : Int32) else 0)), .val (.int (if v1_217 = (2 : Int32) then (1 : Int32) else 0))] [(.int (1 : Int32))]))
      exact Go.retVW X_231 e_231 hS0 (Nat.le_trans hk0 (Nat.le_trans le_203 (Nat.le_trans le_204 (Nat.le_trans le_206 (Nat.le_trans le_208 (Nat.le_trans le_211 (Nat.le_trans le_212 (Nat.le_trans le_213 le_217)))))))) hZ hEL hh0 CR_217 hx hlk hret rfl (Or.inl ⟨rfl, Or.inr (Or.inl rfl), _, rfl⟩) (hb hby at_198) (by decide) (by decide) (by rw [e_231]; exact ⟨rfl, N_231⟩)
  · skip
    show Go p e below _ (s₁.setTop (mkF m 5 #[.val (.int p0), .val (.int p1), .val (.int p2), .val (.int p3), .val (.int (3 : Int32)), .unset, .unset, .unset, .unset, .unset, .unset, .unset, .unset, .unset, .unset] []))
    refine Go.step (fun _ k => XS.iloadN X0.here hx rfl (hb hby at_5) rfl  k) ?_
    show Go p e below _ (s₁.setTop (mkF m 6 #[.val (.int p0), .val (.int p1), .val (.int p2), .val (.int p3), .val (.int (3 : Int32)), .unset, .unset, .unset, .unset, .unset, .unset, .unset, .unset, .unset, .unset] [(.int p1)]))
    obtain ⟨v_232, T_232, L_232, X_232, hQ_232, st_232⟩ := goS X0 hx hZ (y := ({ cls := "com/example/sigyn/sigyn/sip/SipScannerAtEndPinLaw", name := "draw", desc := "(I)C" } : Jvm.MethodName)) hown (wd_0 hw) (wd_1 hw) (wd_2 hw) (wd_3 hw) (by decide) (backOf (W := 0) (rm_draw l Z a0 hw zc vfm (p1) h0 n0 (Nat.le_trans Z0 KP0.1) hSt hO) hZ (wd_3 hw) (wd_2 hw) (by decide) (by decide)) e0 (g := (mkF m 6 #[.val (.int p0), .val (.int p1), .val (.int p2), .val (.int p3), .val (.int (3 : Int32)), .unset, .unset, .unset, .unset, .unset, .unset, .unset, .unset, .unset, .unset] [(.int p1)])) rfl (by rw [hml]; rfl) (argsL := [(.int p1)]) (rest := []) rfl (lenOf pd_2 rfl) rfl (by show 2 * 0 + _ ≤ _; exact Nat.le_of_eq rfl) (hb hby at_6) (by decide) (by decide)
    obtain ⟨v1_232, rfl, Nq_232, e_232, u0_232⟩ := hQ_232
    have N_232 := Fr.app N0 Nq_232
    have hlat_232 := u0_232
    refine Go.step st_232 ?_
    show Go p e below _ (T_232.setTop (mkF m 9 #[.val (.int p0), .val (.int p1), .val (.int p2), .val (.int p3), .val (.int (3 : Int32)), .unset, .unset, .unset, .unset, .unset, .unset, .unset, .unset, .unset, .unset] [(.int v1_232)]))
    refine Go.step (fun _ k => XS.istore X_232.here hx rfl (hb hby at_9) rfl (l' := #[.val (.int p0), .val (.int p1), .val (.int p2), .val (.int p3), .val (.int (3 : Int32)), .val (.int v1_232), .unset, .unset, .unset, .unset, .unset, .unset, .unset, .unset, .unset]) rfl k) ?_
    show Go p e below _ (T_232.setTop (mkF m 11 #[.val (.int p0), .val (.int p1), .val (.int p2), .val (.int p3), .val (.int (3 : Int32)), .val (.int v1_232), .unset, .unset, .unset, .unset, .unset, .unset, .unset, .unset, .unset] []))
    refine Go.step (fun _ k => XS.iloadN X_232.here hx rfl (hb hby at_11) rfl  k) ?_
    show Go p e below _ (T_232.setTop (mkF m 12 #[.val (.int p0), .val (.int p1), .val (.int p2), .val (.int p3), .val (.int (3 : Int32)), .val (.int v1_232), .unset, .unset, .unset, .unset, .unset, .unset, .unset, .unset, .unset] [(.int p2)]))
    obtain ⟨v_233, T_233, L_233, X_233, hQ_233, st_233⟩ := goS X_232 hx hZ (y := ({ cls := "com/example/sigyn/sigyn/sip/SipScannerAtEndPinLaw", name := "draw", desc := "(I)C" } : Jvm.MethodName)) hown (wd_0 hw) (wd_1 hw) (wd_2 hw) (wd_3 hw) (by decide) (backOf (W := 0) (rm_draw l Z a0 hw zc vfm (p2) h0 n0 (Nat.le_trans Z0 KP0.1) hSt hO) hZ (wd_3 hw) (wd_2 hw) (by decide) (by decide)) e_232 (g := (mkF m 12 #[.val (.int p0), .val (.int p1), .val (.int p2), .val (.int p3), .val (.int (3 : Int32)), .val (.int v1_232), .unset, .unset, .unset, .unset, .unset, .unset, .unset, .unset, .unset] [(.int p2)])) rfl (by rw [hml]; rfl) (argsL := [(.int p2)]) (rest := []) rfl (lenOf pd_2 rfl) rfl (by show 2 * 0 + _ ≤ _; exact Nat.le_of_eq rfl) (hb hby at_12) (by decide) (by decide)
    obtain ⟨v1_233, rfl, Nq_233, e_233, u0_233⟩ := hQ_233
    have N_233 := Fr.app N_232 Nq_233
    have hlat_233 := u0_233
    refine Go.step st_233 ?_
    show Go p e below _ (T_233.setTop (mkF m 15 #[.val (.int p0), .val (.int p1), .val (.int p2), .val (.int p3), .val (.int (3 : Int32)), .val (.int v1_232), .unset, .unset, .unset, .unset, .unset, .unset, .unset, .unset, .unset] [(.int v1_233)]))
    refine Go.step (fun _ k => XS.istore X_233.here hx rfl (hb hby at_15) rfl (l' := #[.val (.int p0), .val (.int p1), .val (.int p2), .val (.int p3), .val (.int (3 : Int32)), .val (.int v1_232), .val (.int v1_233), .unset, .unset, .unset, .unset, .unset, .unset, .unset, .unset]) rfl k) ?_
    show Go p e below _ (T_233.setTop (mkF m 17 #[.val (.int p0), .val (.int p1), .val (.int p2), .val (.int p3), .val (.int (3 : Int32)), .val (.int v1_232), .val (.int v1_233), .unset, .unset, .unset, .unset, .unset, .unset, .unset, .unset] []))
    refine Go.step (fun _ k => XS.iloadN X_233.here hx rfl (hb hby at_17) rfl  k) ?_
    show Go p e below _ (T_233.setTop (mkF m 18 #[.val (.int p0), .val (.int p1), .val (.int p2), .val (.int p3), .val (.int (3 : Int32)), .val (.int v1_232), .val (.int v1_233), .unset, .unset, .unset, .unset, .unset, .unset, .unset, .unset] [(.int p3)]))
    obtain ⟨v_234, T_234, L_234, X_234, hQ_234, st_234⟩ := goS X_233 hx hZ (y := ({ cls := "com/example/sigyn/sigyn/sip/SipScannerAtEndPinLaw", name := "draw", desc := "(I)C" } : Jvm.MethodName)) hown (wd_0 hw) (wd_1 hw) (wd_2 hw) (wd_3 hw) (by decide) (backOf (W := 0) (rm_draw l Z a0 hw zc vfm (p3) h0 n0 (Nat.le_trans Z0 KP0.1) hSt hO) hZ (wd_3 hw) (wd_2 hw) (by decide) (by decide)) e_233 (g := (mkF m 18 #[.val (.int p0), .val (.int p1), .val (.int p2), .val (.int p3), .val (.int (3 : Int32)), .val (.int v1_232), .val (.int v1_233), .unset, .unset, .unset, .unset, .unset, .unset, .unset, .unset] [(.int p3)])) rfl (by rw [hml]; rfl) (argsL := [(.int p3)]) (rest := []) rfl (lenOf pd_2 rfl) rfl (by show 2 * 0 + _ ≤ _; exact Nat.le_of_eq rfl) (hb hby at_18) (by decide) (by decide)
    obtain ⟨v1_234, rfl, Nq_234, e_234, u0_234⟩ := hQ_234
    have N_234 := Fr.app N_233 Nq_234
    have hlat_234 := u0_234
    refine Go.step st_234 ?_
    show Go p e below _ (T_234.setTop (mkF m 21 #[.val (.int p0), .val (.int p1), .val (.int p2), .val (.int p3), .val (.int (3 : Int32)), .val (.int v1_232), .val (.int v1_233), .unset, .unset, .unset, .unset, .unset, .unset, .unset, .unset] [(.int v1_234)]))
    refine Go.step (fun _ k => XS.istore X_234.here hx rfl (hb hby at_21) rfl (l' := #[.val (.int p0), .val (.int p1), .val (.int p2), .val (.int p3), .val (.int (3 : Int32)), .val (.int v1_232), .val (.int v1_233), .val (.int v1_234), .unset, .unset, .unset, .unset, .unset, .unset, .unset]) rfl k) ?_
    show Go p e below _ (T_234.setTop (mkF m 23 #[.val (.int p0), .val (.int p1), .val (.int p2), .val (.int p3), .val (.int (3 : Int32)), .val (.int v1_232), .val (.int v1_233), .val (.int v1_234), .unset, .unset, .unset, .unset, .unset, .unset, .unset] []))
    refine Go.step (fun _ k => XS.iload X_234.here hx rfl (hb hby at_23) rfl  k) ?_
    show Go p e below _ (T_234.setTop (mkF m 25 #[.val (.int p0), .val (.int p1), .val (.int p2), .val (.int p3), .val (.int (3 : Int32)), .val (.int v1_232), .val (.int v1_233), .val (.int v1_234), .unset, .unset, .unset, .unset, .unset, .unset, .unset] [(.int (3 : Int32))]))
    obtain ⟨T_235, h_235, k_235, X_235, e_235, E_235, A_235, st_235⟩ := newP X_234 hx hZ (aty := .char) (wd_4 hw) e_234 (g := (mkF m 25 #[.val (.int p0), .val (.int p1), .val (.int p2), .val (.int p3), .val (.int (3 : Int32)), .val (.int v1_232), .val (.int v1_233), .val (.int v1_234), .unset, .unset, .unset, .unset, .unset, .unset, .unset] [(.int (3 : Int32))])) rfl (hb hby at_25) rfl (by decide) (cap := 3) (by decide) (by decide) (by decide) (by decide)
    obtain ⟨b235, q_235⟩ : ∃ z, z = h0.size := ⟨_, rfl⟩
    rw [← q_235] at A_235 st_235
    refine Go.step st_235 ?_
    have C_235 := CHr.ext E_235 CV0
    have CR_235 := CHr.trans (CHr.refl CV0) C_235
    have le_235 : h0.size ≤ h_235.size := E_235.1
    have KP_235 := KP0.ext E_235
    have O_235 := hO.ext E_235
    have ge_235 : h0.size ≤ b235 := Nat.le_of_eq q_235.symm
    have sz_b235 : h0.size ≤ b235 := Nat.le_trans (Nat.le_refl _) ge_235
    have g_b235 : n0 ≤ b235 := Nat.le_trans Z0 sz_b235
    have V_235 : Arv Z h_235 b235 k_235 .char (3 : Int32) [(.int (0 : Int32)), (.int (0 : Int32)), (.int (0 : Int32))] (.int (0 : Int32)) := (Arv.new A_235 (by decide)).pad (pad_rep [] (.int (0 : Int32)) 3)
    have Sf_b235 := Safe.ext E_235 CV0 (Safe.new ge_235)
    show Go p e below _ (T_235.setTop (mkF m 27 #[.val (.int p0), .val (.int p1), .val (.int p2), .val (.int p3), .val (.int (3 : Int32)), .val (.int v1_232), .val (.int v1_233), .val (.int v1_234), .unset, .unset, .unset, .unset, .unset, .unset, .unset] [(.ref b235)]))
    refine Go.step (fun _ k => XS.astore X_235.here hx rfl (hb hby at_27) rfl rfl (l' := #[.val (.int p0), .val (.int p1), .val (.int p2), .val (.int p3), .val (.int (3 : Int32)), .val (.int v1_232), .val (.int v1_233), .val (.int v1_234), .val (.ref b235), .unset, .unset, .unset, .unset, .unset, .unset]) rfl k) ?_
    show Go p e below _ (T_235.setTop (mkF m 29 #[.val (.int p0), .val (.int p1), .val (.int p2), .val (.int p3), .val (.int (3 : Int32)), .val (.int v1_232), .val (.int v1_233), .val (.int v1_234), .val (.ref b235), .unset, .unset, .unset, .unset, .unset, .unset] []))
    refine Go.step (fun _ k => XS.iload X_235.here hx rfl (hb hby at_29) rfl  k) ?_
    show Go p e below _ (T_235.setTop (mkF m 31 #[.val (.int p0), .val (.int p1), .val (.int p2), .val (.int p3), .val (.int (3 : Int32)), .val (.int v1_232), .val (.int v1_233), .val (.int v1_234), .val (.ref b235), .unset, .unset, .unset, .unset, .unset, .unset] [(.int (3 : Int32))]))
    refine Go.step (fun _ k => XS.ifNo X_235.here hx rfl (hb hby at_31) rfl ((if0 _ _).trans (tlt ((by decide) : (0 : Int32) < (3 : Int32))).2.2.2) k) ?_
    show Go p e below _ (T_235.setTop (mkF m 34 #[.val (.int p0), .val (.int p1), .val (.int p2), .val (.int p3), .val (.int (3 : Int32)), .val (.int v1_232), .val (.int v1_233), .val (.int v1_234), .val (.ref b235), .unset, .unset, .unset, .unset, .unset, .unset] []))
    refine Go.step (fun _ k => XS.aload X_235.here hx rfl (hb hby at_34) rfl rfl k) ?_
    show Go p e below _ (T_235.setTop (mkF m 36 #[.val (.int p0), .val (.int p1), .val (.int p2), .val (.int p3), .val (.int (3 : Int32)), .val (.int v1_232), .val (.int v1_233), .val (.int v1_234), .val (.ref b235), .unset, .unset, .unset, .unset, .unset, .unset] [(.ref b235)]))
    refine Go.step (fun _ k => XS.iconst X_235.here hx rfl (hb hby at_36) k) ?_
    show Go p e below _ (T_235.setTop (mkF m 37 #[.val (.int p0), .val (.int p1), .val (.int p2), .val (.int p3), .val (.int (3 : Int32)), .val (.int v1_232), .val (.int v1_233), .val (.int v1_234), .val (.ref b235), .unset, .unset, .unset, .unset, .unset, .unset] [(.int (0 : Int32)), (.ref b235)]))
    refine Go.step (fun _ k => XS.iload X_235.here hx rfl (hb hby at_37) rfl  k) ?_
    show Go p e below _ (T_235.setTop (mkF m 39 #[.val (.int p0), .val (.int p1), .val (.int p2), .val (.int p3), .val (.int (3 : Int32)), .val (.int v1_232), .val (.int v1_233), .val (.int v1_234), .val (.ref b235), .unset, .unset, .unset, .unset, .unset, .unset] [(.int v1_232), (.int (0 : Int32)), (.ref b235)]))
    have cp237 := V_235
    obtain ⟨cl_236, Ar_236, ck_236, Sz_236, Ng_236, Hs_236, Gs_236⟩ := cp237
    have hin_236 : ¬ ((0 : Int32) < 0 ∨ cl_236.slots.size ≤ ((0 : Int32)).toNatClampNeg) := inb_of Sz_236 ⟨by decide, by decide⟩
    obtain ⟨T_236, h_236, X_236, e_236, W_236, st_236⟩ := stC X_235 hx hZ e_235 Ar_236 (j := (0 : Int32)) hin_236 (g := (mkF m 39 #[.val (.int p0), .val (.int p1), .val (.int p2), .val (.int p3), .val (.int (3 : Int32)), .val (.int v1_232), .val (.int v1_233), .val (.int v1_234), .val (.ref b235), .unset, .unset, .unset, .unset, .unset, .unset] [(.int v1_232), (.int (0 : Int32)), (.ref b235)])) rfl rfl (hb hby at_39)
    refine Go.step st_236 ?_
    have N_236 := Fr.snoc X_236 N_234 g_b235
    have C_236 := CHr.wr W_236 (Safe.arv hZ.alike V_235 (by decide)) C_235.1
    have CR_236 := CHr.trans CR_235 C_236
    have le_236 : h_235.size ≤ h_236.size := Nat.le_of_eq W_236.size.symm
    have KP_236 := KP_235.wr W_236 (Or.inr sz_b235)
    have O_236 := O_235.wr W_236 g_b235
    have V_236 : Arv Z h_236 b235 k_235 .char (3 : Int32) [(.int v1_232), (.int (0 : Int32)), (.int (0 : Int32))] (.int (0 : Int32)) := by
      have q := Arv.set Ar_236 ck_236 Sz_236 Ng_236 Hs_236 Gs_236 (fits_nar_char _) W_236 0 rfl (Nat.le_of_ble_eq_true rfl)
      rw [nar_lat hlat_232] at q; exact q
    show Go p e below _ (T_236.setTop (mkF m 40 #[.val (.int p0), .val (.int p1), .val (.int p2), .val (.int p3), .val (.int (3 : Int32)), .val (.int v1_232), .val (.int v1_233), .val (.int v1_234), .val (.ref b235), .unset, .unset, .unset, .unset, .unset, .unset] []))
    refine Go.step (fun _ k => XS.iload X_236.here hx rfl (hb hby at_40) rfl  k) ?_
    show Go p e below _ (T_236.setTop (mkF m 42 #[.val (.int p0), .val (.int p1), .val (.int p2), .val (.int p3), .val (.int (3 : Int32)), .val (.int v1_232), .val (.int v1_233), .val (.int v1_234), .val (.ref b235), .unset, .unset, .unset, .unset, .unset, .unset] [(.int (3 : Int32))]))
    refine Go.step (fun _ k => XS.iconst X_236.here hx rfl (hb hby at_42) k) ?_
    show Go p e below _ (T_236.setTop (mkF m 43 #[.val (.int p0), .val (.int p1), .val (.int p2), .val (.int p3), .val (.int (3 : Int32)), .val (.int v1_232), .val (.int v1_233), .val (.int v1_234), .val (.ref b235), .unset, .unset, .unset, .unset, .unset, .unset] [(.int (1 : Int32)), (.int (3 : Int32))]))
    refine Go.step (fun _ k => XS.icmpNo X_236.here hx rfl (hb hby at_43) rfl (tlt ((by decide) : (1 : Int32) < (3 : Int32))).2.2.2 k) ?_
    show Go p e below _ (T_236.setTop (mkF m 46 #[.val (.int p0), .val (.int p1), .val (.int p2), .val (.int p3), .val (.int (3 : Int32)), .val (.int v1_232), .val (.int v1_233), .val (.int v1_234), .val (.ref b235), .unset, .unset, .unset, .unset, .unset, .unset] []))
    refine Go.step (fun _ k => XS.aload X_236.here hx rfl (hb hby at_46) rfl rfl k) ?_
    show Go p e below _ (T_236.setTop (mkF m 48 #[.val (.int p0), .val (.int p1), .val (.int p2), .val (.int p3), .val (.int (3 : Int32)), .val (.int v1_232), .val (.int v1_233), .val (.int v1_234), .val (.ref b235), .unset, .unset, .unset, .unset, .unset, .unset] [(.ref b235)]))
    refine Go.step (fun _ k => XS.iconst X_236.here hx rfl (hb hby at_48) k) ?_
    show Go p e below _ (T_236.setTop (mkF m 49 #[.val (.int p0), .val (.int p1), .val (.int p2), .val (.int p3), .val (.int (3 : Int32)), .val (.int v1_232), .val (.int v1_233), .val (.int v1_234), .val (.ref b235), .unset, .unset, .unset, .unset, .unset, .unset] [(.int (1 : Int32)), (.ref b235)]))
    refine Go.step (fun _ k => XS.iload X_236.here hx rfl (hb hby at_49) rfl  k) ?_
    show Go p e below _ (T_236.setTop (mkF m 51 #[.val (.int p0), .val (.int p1), .val (.int p2), .val (.int p3), .val (.int (3 : Int32)), .val (.int v1_232), .val (.int v1_233), .val (.int v1_234), .val (.ref b235), .unset, .unset, .unset, .unset, .unset, .unset] [(.int v1_233), (.int (1 : Int32)), (.ref b235)]))
    have cp239 := V_236
    obtain ⟨cl_238, Ar_238, ck_238, Sz_238, Ng_238, Hs_238, Gs_238⟩ := cp239
    have hin_238 : ¬ ((1 : Int32) < 0 ∨ cl_238.slots.size ≤ ((1 : Int32)).toNatClampNeg) := inb_of Sz_238 ⟨by decide, by decide⟩
    obtain ⟨T_238, h_238, X_238, e_238, W_238, st_238⟩ := stC X_236 hx hZ e_236 Ar_238 (j := (1 : Int32)) hin_238 (g := (mkF m 51 #[.val (.int p0), .val (.int p1), .val (.int p2), .val (.int p3), .val (.int (3 : Int32)), .val (.int v1_232), .val (.int v1_233), .val (.int v1_234), .val (.ref b235), .unset, .unset, .unset, .unset, .unset, .unset] [(.int v1_233), (.int (1 : Int32)), (.ref b235)])) rfl rfl (hb hby at_51)
    refine Go.step st_238 ?_
    have N_238 := Fr.snoc X_238 N_236 g_b235
    have C_238 := CHr.wr W_238 (Safe.arv hZ.alike V_236 (by decide)) C_236.1
    have CR_238 := CHr.trans CR_236 C_238
    have le_238 : h_236.size ≤ h_238.size := Nat.le_of_eq W_238.size.symm
    have KP_238 := KP_236.wr W_238 (Or.inr sz_b235)
    have O_238 := O_236.wr W_238 g_b235
    have V_238 : Arv Z h_238 b235 k_235 .char (3 : Int32) [(.int v1_232), (.int v1_233), (.int (0 : Int32))] (.int (0 : Int32)) := by
      have q := Arv.set Ar_238 ck_238 Sz_238 Ng_238 Hs_238 Gs_238 (fits_nar_char _) W_238 1 rfl (Nat.le_of_ble_eq_true rfl)
      rw [nar_lat hlat_233] at q; exact q
    show Go p e below _ (T_238.setTop (mkF m 52 #[.val (.int p0), .val (.int p1), .val (.int p2), .val (.int p3), .val (.int (3 : Int32)), .val (.int v1_232), .val (.int v1_233), .val (.int v1_234), .val (.ref b235), .unset, .unset, .unset, .unset, .unset, .unset] []))
    refine Go.step (fun _ k => XS.iload X_238.here hx rfl (hb hby at_52) rfl  k) ?_
    show Go p e below _ (T_238.setTop (mkF m 54 #[.val (.int p0), .val (.int p1), .val (.int p2), .val (.int p3), .val (.int (3 : Int32)), .val (.int v1_232), .val (.int v1_233), .val (.int v1_234), .val (.ref b235), .unset, .unset, .unset, .unset, .unset, .unset] [(.int (3 : Int32))]))
    refine Go.step (fun _ k => XS.iconst X_238.here hx rfl (hb hby at_54) k) ?_
    show Go p e below _ (T_238.setTop (mkF m 55 #[.val (.int p0), .val (.int p1), .val (.int p2), .val (.int p3), .val (.int (3 : Int32)), .val (.int v1_232), .val (.int v1_233), .val (.int v1_234), .val (.ref b235), .unset, .unset, .unset, .unset, .unset, .unset] [(.int (2 : Int32)), (.int (3 : Int32))]))
    refine Go.step (fun _ k => XS.icmpNo X_238.here hx rfl (hb hby at_55) rfl (tlt ((by decide) : (2 : Int32) < (3 : Int32))).2.2.2 k) ?_
    show Go p e below _ (T_238.setTop (mkF m 58 #[.val (.int p0), .val (.int p1), .val (.int p2), .val (.int p3), .val (.int (3 : Int32)), .val (.int v1_232), .val (.int v1_233), .val (.int v1_234), .val (.ref b235), .unset, .unset, .unset, .unset, .unset, .unset] []))
    refine Go.step (fun _ k => XS.aload X_238.here hx rfl (hb hby at_58) rfl rfl k) ?_
    show Go p e below _ (T_238.setTop (mkF m 60 #[.val (.int p0), .val (.int p1), .val (.int p2), .val (.int p3), .val (.int (3 : Int32)), .val (.int v1_232), .val (.int v1_233), .val (.int v1_234), .val (.ref b235), .unset, .unset, .unset, .unset, .unset, .unset] [(.ref b235)]))
    refine Go.step (fun _ k => XS.iconst X_238.here hx rfl (hb hby at_60) k) ?_
    show Go p e below _ (T_238.setTop (mkF m 61 #[.val (.int p0), .val (.int p1), .val (.int p2), .val (.int p3), .val (.int (3 : Int32)), .val (.int v1_232), .val (.int v1_233), .val (.int v1_234), .val (.ref b235), .unset, .unset, .unset, .unset, .unset, .unset] [(.int (2 : Int32)), (.ref b235)]))
    refine Go.step (fun _ k => XS.iload X_238.here hx rfl (hb hby at_61) rfl  k) ?_
    show Go p e below _ (T_238.setTop (mkF m 63 #[.val (.int p0), .val (.int p1), .val (.int p2), .val (.int p3), .val (.int (3 : Int32)), .val (.int v1_232), .val (.int v1_233), .val (.int v1_234), .val (.ref b235), .unset, .unset, .unset, .unset, .unset, .unset] [(.int v1_234), (.int (2 : Int32)), (.ref b235)]))
    have cp241 := V_238
    obtain ⟨cl_240, Ar_240, ck_240, Sz_240, Ng_240, Hs_240, Gs_240⟩ := cp241
    have hin_240 : ¬ ((2 : Int32) < 0 ∨ cl_240.slots.size ≤ ((2 : Int32)).toNatClampNeg) := inb_of Sz_240 ⟨by decide, by decide⟩
    obtain ⟨T_240, h_240, X_240, e_240, W_240, st_240⟩ := stC X_238 hx hZ e_238 Ar_240 (j := (2 : Int32)) hin_240 (g := (mkF m 63 #[.val (.int p0), .val (.int p1), .val (.int p2), .val (.int p3), .val (.int (3 : Int32)), .val (.int v1_232), .val (.int v1_233), .val (.int v1_234), .val (.ref b235), .unset, .unset, .unset, .unset, .unset, .unset] [(.int v1_234), (.int (2 : Int32)), (.ref b235)])) rfl rfl (hb hby at_63)
    refine Go.step st_240 ?_
    have N_240 := Fr.snoc X_240 N_238 g_b235
    have C_240 := CHr.wr W_240 (Safe.arv hZ.alike V_238 (by decide)) C_238.1
    have CR_240 := CHr.trans CR_238 C_240
    have le_240 : h_238.size ≤ h_240.size := Nat.le_of_eq W_240.size.symm
    have KP_240 := KP_238.wr W_240 (Or.inr sz_b235)
    have O_240 := O_238.wr W_240 g_b235
    have V_240 : Arv Z h_240 b235 k_235 .char (3 : Int32) [(.int v1_232), (.int v1_233), (.int v1_234)] (.int (0 : Int32)) := by
      have q := Arv.set Ar_240 ck_240 Sz_240 Ng_240 Hs_240 Gs_240 (fits_nar_char _) W_240 2 rfl (Nat.le_of_ble_eq_true rfl)
      rw [nar_lat hlat_234] at q; exact q
    show Go p e below _ (T_240.setTop (mkF m 64 #[.val (.int p0), .val (.int p1), .val (.int p2), .val (.int p3), .val (.int (3 : Int32)), .val (.int v1_232), .val (.int v1_233), .val (.int v1_234), .val (.ref b235), .unset, .unset, .unset, .unset, .unset, .unset] []))
    obtain ⟨T_242, h_242, X_242, e_242, E_242, A_242, D_242, -, st_242⟩ := newO X_240 hx hZ hown (wd_5 hw) (wd_6 hw) (wd_7 hw) e_240 (g := (mkF m 64 #[.val (.int p0), .val (.int p1), .val (.int p2), .val (.int p3), .val (.int (3 : Int32)), .val (.int v1_232), .val (.int v1_233), .val (.int v1_234), .val (.ref b235), .unset, .unset, .unset, .unset, .unset, .unset] [])) rfl (hb hby at_64) (by decide) (by decide)
    obtain ⟨b242, q_242⟩ : ∃ z, z = h_240.size := ⟨_, rfl⟩
    rw [← q_242] at A_242 D_242 st_242
    refine Go.step st_242 ?_
    have C_242 := CHr.ext E_242 C_240.1
    have CR_242 := CHr.trans CR_240 C_242
    have le_242 : h_240.size ≤ h_242.size := E_242.1
    have KP_242 := KP_240.ext E_242
    have O_242 := O_240.ext E_242
    have ge_242 : h_240.size ≤ b242 := Nat.le_of_eq q_242.symm
    have sz_b242 : h0.size ≤ b242 := Nat.le_trans (Nat.le_trans le_235 (Nat.le_trans le_236 (Nat.le_trans le_238 le_240))) ge_242
    have g_b242 : n0 ≤ b242 := Nat.le_trans Z0 sz_b242
    have F_242_20 : Fld Z h_242 b242 "java/lang/String" "value" "[B" .null := D_242 (Or.inr (wd_20 hw)) (ty := (.array .byte)) pf_0
    have F_242_21 : Fld Z h_242 b242 "java/lang/String" "coder" "B" (.int (0 : Int32)) := D_242 (Or.inr (wd_21 hw)) (ty := .byte) pf_1
    have Sf_b242 := Safe.ext E_242 C_240.1 (Safe.new ge_242)
    show Go p e below _ (T_242.setTop (mkF m 67 #[.val (.int p0), .val (.int p1), .val (.int p2), .val (.int p3), .val (.int (3 : Int32)), .val (.int v1_232), .val (.int v1_233), .val (.int v1_234), .val (.ref b235), .unset, .unset, .unset, .unset, .unset, .unset] [(.ref b242)]))
    refine Go.step (fun _ k => XS.dup X_242.here hx rfl (hb hby at_67) rfl rfl k) ?_
    show Go p e below _ (T_242.setTop (mkF m 68 #[.val (.int p0), .val (.int p1), .val (.int p2), .val (.int p3), .val (.int (3 : Int32)), .val (.int v1_232), .val (.int v1_233), .val (.int v1_234), .val (.ref b235), .unset, .unset, .unset, .unset, .unset, .unset] [(.ref b242), (.ref b242)]))
    refine Go.step (fun _ k => XS.aload X_242.here hx rfl (hb hby at_68) rfl rfl k) ?_
    show Go p e below _ (T_242.setTop (mkF m 70 #[.val (.int p0), .val (.int p1), .val (.int p2), .val (.int p3), .val (.int (3 : Int32)), .val (.int v1_232), .val (.int v1_233), .val (.int v1_234), .val (.ref b235), .unset, .unset, .unset, .unset, .unset, .unset] [(.ref b235), (.ref b242), (.ref b242)]))
    have f243 : Arv Z h_242 b235 k_235 .char (3 : Int32) [(.int v1_232), (.int v1_233), (.int v1_234)] (.int (0 : Int32)) := (V_240.ext E_242)
    have hp244 : ∀ c ∈ ([v1_232, v1_233, v1_234] : List Int32), ¬ c < 0 ∧ ¬ (255 : Int32) < c := (latc hlat_232 (latc hlat_233 (latc hlat_234 lat0)))
    obtain ⟨v_245, T_245, L_245, X_245, hQ_245, st_245⟩ := goC X_242 hx hZ (y := ({ cls := "java/lang/String", name := "<init>", desc := "([C)V" } : Jvm.MethodName)) hown rfl (wd_8 hw) (wd_9 hw) (wd_10 hw) (by decide) (StrChars.Road.backV (W := 1) hZ (sw_words hw) (kI := 4) (wd_6 hw) (cs := ([v1_232, v1_233, v1_234] : List Int32)) (bs := ([v1_232, v1_233, v1_234] : List Int32).map (fun c => c.toInt8.toInt32)) (n := 3) g_b242 (Nat.le_trans Z0 KP_242.1) A_242 F_242_20 F_242_21 f243 (S_cs.ext O_242.2) n_cs rfl rfl (by decide) (by decide) hp244 rfl (by decide) (by decide)) e_242 (g := (mkF m 70 #[.val (.int p0), .val (.int p1), .val (.int p2), .val (.int p3), .val (.int (3 : Int32)), .val (.int v1_232), .val (.int v1_233), .val (.int v1_234), .val (.ref b235), .unset, .unset, .unset, .unset, .unset, .unset] [(.ref b235), (.ref b242), (.ref b242)])) rfl (by rw [hml]; rfl) (a := b242) (argsL := [(.ref b235)]) (rest := [(.ref b242)]) rfl (lenOf pd_4 rfl) rfl (by show 2 * 0 + _ ≤ _; exact Nat.le_of_eq rfl) (hb hby at_70) (by decide) (by decide)
    obtain ⟨rfl, Nq_245, K_245, Ex_245, Fc_245, t_245, kb_245, -, gt_245, -, Fv_245, Av_245⟩ := hQ_245
    have N_245 := Fr.app N_240 Nq_245
    have C_245 := CHr.keep K_245 (sfS Sf_b242 sf0) C_242.1
    have CR_245 := CHr.trans CR_242 C_245
    have le_245 : h_242.size ≤ T_245.heap.size := K_245.1
    have KP_245 := KP_242.trans K_245 (allS (Or.inr sz_b242) all0)
    have O_245 := O_242.keep K_245 (allS g_b242 all0)
    have Sx_245 : Str Z (T_245.heap).size (T_245.heap) b242 ([v1_232, v1_233, v1_234] : List Int32) := ⟨t_245, kb_245, Ex_245.lt, Av_245.lt, Ex_245, Fv_245, Fc_245, Av_245, hp244, Nat.le_of_ble_eq_true rfl⟩
    refine Go.step st_245 ?_
    show Go p e below _ (T_245.setTop (mkF m 73 #[.val (.int p0), .val (.int p1), .val (.int p2), .val (.int p3), .val (.int (3 : Int32)), .val (.int v1_232), .val (.int v1_233), .val (.int v1_234), .val (.ref b235), .unset, .unset, .unset, .unset, .unset, .unset] [(.ref b242)]))
    refine Go.step (fun _ k => XS.astore X_245.here hx rfl (hb hby at_73) rfl rfl (l' := #[.val (.int p0), .val (.int p1), .val (.int p2), .val (.int p3), .val (.int (3 : Int32)), .val (.int v1_232), .val (.int v1_233), .val (.int v1_234), .val (.ref b235), .val (.ref b242), .unset, .unset, .unset, .unset, .unset]) rfl k) ?_
    show Go p e below _ (T_245.setTop (mkF m 75 #[.val (.int p0), .val (.int p1), .val (.int p2), .val (.int p3), .val (.int (3 : Int32)), .val (.int v1_232), .val (.int v1_233), .val (.int v1_234), .val (.ref b235), .val (.ref b242), .unset, .unset, .unset, .unset, .unset] []))
    obtain ⟨T_246, h_246, X_246, e_246, E_246, A_246, D_246, -, st_246⟩ := newO X_245 hx hZ hown (wd_26 hw) (wd_27 hw) (wd_28 hw) rfl (g := (mkF m 75 #[.val (.int p0), .val (.int p1), .val (.int p2), .val (.int p3), .val (.int (3 : Int32)), .val (.int v1_232), .val (.int v1_233), .val (.int v1_234), .val (.ref b235), .val (.ref b242), .unset, .unset, .unset, .unset, .unset] [])) rfl (hb hby at_75) (by decide) (by decide)
    obtain ⟨b246, q_246⟩ : ∃ z, z = T_245.heap.size := ⟨_, rfl⟩
    rw [← q_246] at A_246 D_246 st_246
    refine Go.step st_246 ?_
    have C_246 := CHr.ext E_246 C_245.1
    have CR_246 := CHr.trans CR_245 C_246
    have le_246 : T_245.heap.size ≤ h_246.size := E_246.1
    have KP_246 := KP_245.ext E_246
    have O_246 := O_245.ext E_246
    have ge_246 : T_245.heap.size ≤ b246 := Nat.le_of_eq q_246.symm
    have sz_b246 : h0.size ≤ b246 := Nat.le_trans (Nat.le_trans le_235 (Nat.le_trans le_236 (Nat.le_trans le_238 (Nat.le_trans le_240 (Nat.le_trans le_242 le_245))))) ge_246
    have g_b246 : n0 ≤ b246 := Nat.le_trans Z0 sz_b246
    have F_246_34 : Fld Z h_246 b246 "com/example/sigyn/sigyn/sip/SipScanner" "text" "Ljava/lang/String;" .null := D_246 (Or.inr (wd_34 hw)) (ty := (.object "java/lang/String")) pf_2
    have F_246_41 : Fld Z h_246 b246 "com/example/sigyn/sigyn/sip/SipScanner" "pos" "I" (.int (0 : Int32)) := D_246 (Or.inl (wd_41 hw)) (ty := .int) pf_3
    have Sf_b246 := Safe.ext E_246 C_245.1 (Safe.new ge_246)
    show Go p e below _ (T_246.setTop (mkF m 78 #[.val (.int p0), .val (.int p1), .val (.int p2), .val (.int p3), .val (.int (3 : Int32)), .val (.int v1_232), .val (.int v1_233), .val (.int v1_234), .val (.ref b235), .val (.ref b242), .unset, .unset, .unset, .unset, .unset] [(.ref b246)]))
    refine Go.step (fun _ k => XS.dup X_246.here hx rfl (hb hby at_78) rfl rfl k) ?_
    show Go p e below _ (T_246.setTop (mkF m 79 #[.val (.int p0), .val (.int p1), .val (.int p2), .val (.int p3), .val (.int (3 : Int32)), .val (.int v1_232), .val (.int v1_233), .val (.int v1_234), .val (.ref b235), .val (.ref b242), .unset, .unset, .unset, .unset, .unset] [(.ref b246), (.ref b246)]))
    refine Go.step (fun _ k => XS.aload X_246.here hx rfl (hb hby at_79) rfl rfl k) ?_
    show Go p e below _ (T_246.setTop (mkF m 81 #[.val (.int p0), .val (.int p1), .val (.int p2), .val (.int p3), .val (.int (3 : Int32)), .val (.int v1_232), .val (.int v1_233), .val (.int v1_234), .val (.ref b235), .val (.ref b242), .unset, .unset, .unset, .unset, .unset] [(.ref b242), (.ref b246), (.ref b246)]))
    obtain ⟨v_247, T_247, L_247, X_247, hQ_247, st_247⟩ := goC X_246 hx hZ (y := ({ cls := "com/example/sigyn/sigyn/sip/SipScanner", name := "<init>", desc := "(Ljava/lang/String;)V" } : Jvm.MethodName)) hown rfl (wd_29 hw) (wd_30 hw) (wd_31 hw) (by decide) (backOf (W := 1) (rm_initSS l Z a0 hw zc vfm (b246) (b242) h_246 n0 (Nat.le_trans Z0 KP_246.1) A_246 F_246_34 F_246_41 g_b246 hSt O_246) hZ (wd_31 hw) (wd_28 hw) (by decide) (by decide)) e_246 (g := (mkF m 81 #[.val (.int p0), .val (.int p1), .val (.int p2), .val (.int p3), .val (.int (3 : Int32)), .val (.int v1_232), .val (.int v1_233), .val (.int v1_234), .val (.ref b235), .val (.ref b242), .unset, .unset, .unset, .unset, .unset] [(.ref b242), (.ref b246), (.ref b246)])) rfl (by rw [hml]; rfl) (a := b246) (argsL := [(.ref b242)]) (rest := [(.ref b246)]) rfl (lenOf pd_5 rfl) rfl (by show 2 * 0 + _ ≤ _; exact Nat.le_of_eq rfl) (hb hby at_81) (by decide) (by decide)
    obtain ⟨rfl, Nq_247, K_247, u0_247, u1_247⟩ := hQ_247
    have N_247 := Fr.app N_245 Nq_247
    have C_247 := CHr.keep K_247 (sfS (Safe.exa hZ.alike A_246 (by decide) (by decide)) sf0) C_246.1
    have CR_247 := CHr.trans CR_246 C_247
    have le_247 : h_246.size ≤ T_247.heap.size := K_247.1
    have KP_247 := KP_246.trans K_247 (allS (Or.inr sz_b246) all0)
    have O_247 := O_246.keep K_247 (allS g_b246 all0)
    refine Go.step st_247 ?_
    show Go p e below _ (T_247.setTop (mkF m 84 #[.val (.int p0), .val (.int p1), .val (.int p2), .val (.int p3), .val (.int (3 : Int32)), .val (.int v1_232), .val (.int v1_233), .val (.int v1_234), .val (.ref b235), .val (.ref b242), .unset, .unset, .unset, .unset, .unset] [(.ref b246)]))
    refine Go.step (fun _ k => XS.astore X_247.here hx rfl (hb hby at_84) rfl rfl (l' := #[.val (.int p0), .val (.int p1), .val (.int p2), .val (.int p3), .val (.int (3 : Int32)), .val (.int v1_232), .val (.int v1_233), .val (.int v1_234), .val (.ref b235), .val (.ref b242), .val (.ref b246), .unset, .unset, .unset, .unset]) rfl k) ?_
    show Go p e below _ (T_247.setTop (mkF m 86 #[.val (.int p0), .val (.int p1), .val (.int p2), .val (.int p3), .val (.int (3 : Int32)), .val (.int v1_232), .val (.int v1_233), .val (.int v1_234), .val (.ref b235), .val (.ref b242), .val (.ref b246), .unset, .unset, .unset, .unset] []))
    refine Go.step (fun _ k => XS.aload X_247.here hx rfl (hb hby at_86) rfl rfl k) ?_
    show Go p e below _ (T_247.setTop (mkF m 88 #[.val (.int p0), .val (.int p1), .val (.int p2), .val (.int p3), .val (.int (3 : Int32)), .val (.int v1_232), .val (.int v1_233), .val (.int v1_234), .val (.ref b235), .val (.ref b242), .val (.ref b246), .unset, .unset, .unset, .unset] [(.ref b246)]))
    have f248 : Str Z (T_245.heap).size T_247.heap b242 ([v1_232, v1_233, v1_234] : List Int32) := ((Sx_245.ext E_246).keep K_247 (allS (Nat.le_trans (Nat.le_refl _) ge_246) all0))
    have f250 : Exa Z T_247.heap b246 "com/example/sigyn/sigyn/sip/SipScanner" := (A_246.keep K_247)
    obtain ⟨v_249, T_249, L_249, X_249, hQ_249, st_249⟩ := goV X_247 hx hZ (y := ({ cls := "com/example/sigyn/sigyn/sip/SipScanner", name := "atEnd", desc := "()Z" } : Jvm.MethodName)) (z := ({ cls := "com/example/sigyn/sigyn/sip/SipScanner", name := "atEnd", desc := "()Z" } : Jvm.MethodName)) hown (wd_35 hw) (wd_36 hw) (notFace_of_selects (args := #[]) (mvT hZ (wd_38 hw))) (wd_38 hw) (wd_37 hw) (by decide) (backOf (W := 0) (rm_atEnd l Z a0 hw zc vfm (b246) ((0 : Int32)) (b242) (([v1_232, v1_233, v1_234] : List Int32)) ((3 : Int32)) T_247.heap n0 (Nat.le_trans Z0 KP_247.1) u0_247 u1_247 (f248.mono (Nat.le_trans le_246 le_247)) rfl hSt O_247) hZ (wd_39 hw) (wd_28 hw) (by decide) (by decide)) rfl f250 (g := (mkF m 88 #[.val (.int p0), .val (.int p1), .val (.int p2), .val (.int p3), .val (.int (3 : Int32)), .val (.int v1_232), .val (.int v1_233), .val (.int v1_234), .val (.ref b235), .val (.ref b242), .val (.ref b246), .unset, .unset, .unset, .unset] [(.ref b246)])) rfl (by rw [hml]; rfl) (argsL := []) (rest := []) rfl (lenOf pd_6 rfl) rfl (by show 2 * 0 + _ ≤ _; exact Nat.le_of_eq rfl) (hb hby at_88) (by decide) (by decide)
    obtain ⟨rfl, Nq_249, e_249⟩ := hQ_249
    have N_249 := Fr.app N_247 Nq_249
    refine Go.step st_249 ?_
    show Go p e below _ (T_249.setTop (mkF m 91 #[.val (.int p0), .val (.int p1), .val (.int p2), .val (.int p3), .val (.int (3 : Int32)), .val (.int v1_232), .val (.int v1_233), .val (.int v1_234), .val (.ref b235), .val (.ref b242), .val (.ref b246), .unset, .unset, .unset, .unset] [(.int (if (0 : Int32) = (3 : Int32) then (1 : Int32) else 0))]))
    refine Go.step (fun _ k => XS.istore X_249.here hx rfl (hb hby at_91) rfl (l' := #[.val (.int p0), .val (.int p1), .val (.int p2), .val (.int p3), .val (.int (3 : Int32)), .val (.int v1_232), .val (.int v1_233), .val (.int v1_234), .val (.ref b235), .val (.ref b242), .val (.ref b246), .val (.int (if (0 : Int32) = (3 : Int32) then (1 : Int32) else 0)), .unset, .unset, .unset]) rfl k) ?_
    show Go p e below _ (T_249.setTop (mkF m 93 #[.val (.int p0), .val (.int p1), .val (.int p2), .val (.int p3), .val (.int (3 : Int32)), .val (.int v1_232), .val (.int v1_233), .val (.int v1_234), .val (.ref b235), .val (.ref b242), .val (.ref b246), .val (.int (if (0 : Int32) = (3 : Int32) then (1 : Int32) else 0)), .unset, .unset, .unset] []))
    refine Go.step (fun _ k => XS.iload X_249.here hx rfl (hb hby at_93) rfl  k) ?_
    show Go p e below _ (T_249.setTop (mkF m 95 #[.val (.int p0), .val (.int p1), .val (.int p2), .val (.int p3), .val (.int (3 : Int32)), .val (.int v1_232), .val (.int v1_233), .val (.int v1_234), .val (.ref b235), .val (.ref b242), .val (.ref b246), .val (.int (if (0 : Int32) = (3 : Int32) then (1 : Int32) else 0)), .unset, .unset, .unset] [(.int (if (0 : Int32) = (3 : Int32) then (1 : Int32) else 0))]))
    refine Go.step (fun _ k => XS.iload X_249.here hx rfl (hb hby at_95) rfl  k) ?_
    show Go p e below _ (T_249.setTop (mkF m 97 #[.val (.int p0), .val (.int p1), .val (.int p2), .val (.int p3), .val (.int (3 : Int32)), .val (.int v1_232), .val (.int v1_233), .val (.int v1_234), .val (.ref b235), .val (.ref b242), .val (.ref b246), .val (.int (if (0 : Int32) = (3 : Int32) then (1 : Int32) else 0)), .unset, .unset, .unset] [(.int (3 : Int32)), (.int (if (0 : Int32) = (3 : Int32) then (1 : Int32) else 0))]))
    refine Go.step (fun _ k => XS.ifYes X_249.here hx rfl (pc0 := 97) (pc' := 104) rfl (hb hby at_97) rfl ((if0 _ _).trans (feq ((by decide) : ¬ ((3 : Int32) = (0 : Int32)))).2) (by decide) (by decide) k) ?_
    show Go p e below _ (T_249.setTop (mkF m 104 #[.val (.int p0), .val (.int p1), .val (.int p2), .val (.int p3), .val (.int (3 : Int32)), .val (.int v1_232), .val (.int v1_233), .val (.int v1_234), .val (.ref b235), .val (.ref b242), .val (.ref b246), .val (.int (if (0 : Int32) = (3 : Int32) then (1 : Int32) else 0)), .unset, .unset, .unset] [(.int (if (0 : Int32) = (3 : Int32) then (1 : Int32) else 0))]))
    refine Go.step (fun _ k => XS.iconst X_249.here hx rfl (hb hby at_104) k) ?_
    show Go p e below _ (T_249.setTop (mkF m 105 #[.val (.int p0), .val (.int p1), .val (.int p2), .val (.int p3), .val (.int (3 : Int32)), .val (.int v1_232), .val (.int v1_233), .val (.int v1_234), .val (.ref b235), .val (.ref b242), .val (.ref b246), .val (.int (if (0 : Int32) = (3 : Int32) then (1 : Int32) else 0)), .unset, .unset, .unset] [(.int (0 : Int32)), (.int (if (0 : Int32) = (3 : Int32) then (1 : Int32) else 0))]))
    refine Go.step (fun _ k => XS.icmpYes X_249.here hx rfl (pc0 := 105) (pc' := 110) rfl (hb hby at_105) rfl (teq ((by decide) : (if (0 : Int32) = (3 : Int32) then (1 : Int32) else 0) = (0 : Int32))).1 (by decide) (by decide) k) ?_
    show Go p e below _ (T_249.setTop (mkF m 110 #[.val (.int p0), .val (.int p1), .val (.int p2), .val (.int p3), .val (.int (3 : Int32)), .val (.int v1_232), .val (.int v1_233), .val (.int v1_234), .val (.ref b235), .val (.ref b242), .val (.ref b246), .val (.int (if (0 : Int32) = (3 : Int32) then (1 : Int32) else 0)), .unset, .unset, .unset] []))
    refine Go.step (fun _ k => XS.aload X_249.here hx rfl (hb hby at_110) rfl rfl k) ?_
    show Go p e below _ (T_249.setTop (mkF m 112 #[.val (.int p0), .val (.int p1), .val (.int p2), .val (.int p3), .val (.int (3 : Int32)), .val (.int v1_232), .val (.int v1_233), .val (.int v1_234), .val (.ref b235), .val (.ref b242), .val (.ref b246), .val (.int (if (0 : Int32) = (3 : Int32) then (1 : Int32) else 0)), .unset, .unset, .unset] [(.ref b246)]))
    obtain ⟨v_251, T_251, L_251, X_251, hQ_251, st_251⟩ := goV X_249 hx hZ (y := ({ cls := "com/example/sigyn/sigyn/sip/SipScanner", name := "skipSpace", desc := "()I" } : Jvm.MethodName)) (z := ({ cls := "com/example/sigyn/sigyn/sip/SipScanner", name := "skipSpace", desc := "()I" } : Jvm.MethodName)) hown (wd_53 hw) (wd_54 hw) (notFace_of_selects (args := #[]) (mvT hZ (wd_56 hw))) (wd_56 hw) (wd_55 hw) (by decide) (backOf (W := 0) (rm_skip3 l Z a0 hw zc vfm (b246) (b242) (v1_232) (v1_233) (v1_234) T_247.heap n0 (Nat.le_trans Z0 KP_247.1) f250 u0_247 u1_247 (f248.mono (Nat.le_trans le_246 le_247)) g_b246 hSt O_247) hZ (wd_57 hw) (wd_28 hw) (by decide) (by decide)) e_249 f250 (g := (mkF m 112 #[.val (.int p0), .val (.int p1), .val (.int p2), .val (.int p3), .val (.int (3 : Int32)), .val (.int v1_232), .val (.int v1_233), .val (.int v1_234), .val (.ref b235), .val (.ref b242), .val (.ref b246), .val (.int (if (0 : Int32) = (3 : Int32) then (1 : Int32) else 0)), .unset, .unset, .unset] [(.ref b246)])) rfl (by rw [hml]; rfl) (argsL := []) (rest := []) rfl (lenOf pd_1 rfl) rfl (by show 2 * 0 + _ ≤ _; exact Nat.le_of_eq rfl) (hb hby at_112) (by decide) (by decide)
    obtain ⟨v1_251, v2_251, rfl, Nq_251, K_251, u0_251, u1_251, u2_251⟩ := hQ_251
    have N_251 := Fr.app N_249 Nq_251
    have C_251 := CHr.keep K_251 (sfS (Safe.exa hZ.alike f250 (by decide) (by decide)) sf0) C_247.1
    have CR_251 := CHr.trans CR_247 C_251
    have le_251 : T_247.heap.size ≤ T_251.heap.size := K_251.1
    have KP_251 := KP_247.trans K_251 (allS (Or.inr sz_b246) all0)
    have O_251 := O_247.keep K_251 (allS g_b246 all0)
    have hv_251 := u2_251
    refine Go.step st_251 ?_
    show Go p e below _ (T_251.setTop (mkF m 115 #[.val (.int p0), .val (.int p1), .val (.int p2), .val (.int p3), .val (.int (3 : Int32)), .val (.int v1_232), .val (.int v1_233), .val (.int v1_234), .val (.ref b235), .val (.ref b242), .val (.ref b246), .val (.int (if (0 : Int32) = (3 : Int32) then (1 : Int32) else 0)), .unset, .unset, .unset] [(.int v2_251)]))
    have hv := hv_251
    show Go p e below _ (T_251.setTop (mkF m 115 #[.val (.int p0), .val (.int p1), .val (.int p2), .val (.int p3), .val (.int (3 : Int32)), .val (.int v1_232), .val (.int v1_233), .val (.int v1_234), .val (.ref b235), .val (.ref b242), .val (.ref b246), .val (.int (if (0 : Int32) = (3 : Int32) then (1 : Int32) else 0)), .unset, .unset, .unset] [(.int v2_251)]))
    refine Go.step (fun _ k => XS.pop X_251.here hx rfl (hb hby at_115) rfl rfl k) ?_
    show Go p e below _ (T_251.setTop (mkF m 116 #[.val (.int p0), .val (.int p1), .val (.int p2), .val (.int p3), .val (.int (3 : Int32)), .val (.int v1_232), .val (.int v1_233), .val (.int v1_234), .val (.ref b235), .val (.ref b242), .val (.ref b246), .val (.int (if (0 : Int32) = (3 : Int32) then (1 : Int32) else 0)), .unset, .unset, .unset] []))
    refine Go.step (fun _ k => XS.iload X_251.here hx rfl (hb hby at_116) rfl  k) ?_
    show Go p e below _ (T_251.setTop (mkF m 118 #[.val (.int p0), .val (.int p1), .val (.int p2), .val (.int p3), .val (.int (3 : Int32)), .val (.int v1_232), .val (.int v1_233), .val (.int v1_234), .val (.ref b235), .val (.ref b242), .val (.ref b246), .val (.int (if (0 : Int32) = (3 : Int32) then (1 : Int32) else 0)), .unset, .unset, .unset] [(.int (3 : Int32))]))
    refine Go.step (fun _ k => XS.iconst X_251.here hx rfl (hb hby at_118) k) ?_
    show Go p e below _ (T_251.setTop (mkF m 119 #[.val (.int p0), .val (.int p1), .val (.int p2), .val (.int p3), .val (.int (3 : Int32)), .val (.int v1_232), .val (.int v1_233), .val (.int v1_234), .val (.ref b235), .val (.ref b242), .val (.ref b246), .val (.int (if (0 : Int32) = (3 : Int32) then (1 : Int32) else 0)), .unset, .unset, .unset] [(.int (1 : Int32)), (.int (3 : Int32))]))
    refine Go.step (fun _ k => XS.icmpNo X_251.here hx rfl (hb hby at_119) rfl (flt ((by decide) : ¬ ((3 : Int32) < (1 : Int32)))).1 k) ?_
    show Go p e below _ (T_251.setTop (mkF m 122 #[.val (.int p0), .val (.int p1), .val (.int p2), .val (.int p3), .val (.int (3 : Int32)), .val (.int v1_232), .val (.int v1_233), .val (.int v1_234), .val (.ref b235), .val (.ref b242), .val (.ref b246), .val (.int (if (0 : Int32) = (3 : Int32) then (1 : Int32) else 0)), .unset, .unset, .unset] []))
    refine Go.step (fun _ k => XS.iload X_251.here hx rfl (hb hby at_122) rfl  k) ?_
    show Go p e below _ (T_251.setTop (mkF m 124 #[.val (.int p0), .val (.int p1), .val (.int p2), .val (.int p3), .val (.int (3 : Int32)), .val (.int v1_232), .val (.int v1_233), .val (.int v1_234), .val (.ref b235), .val (.ref b242), .val (.ref b246), .val (.int (if (0 : Int32) = (3 : Int32) then (1 : Int32) else 0)), .unset, .unset, .unset] [(.int v1_232)]))
    obtain ⟨v_252, T_252, L_252, X_252, hQ_252, st_252⟩ := goS X_251 hx hZ (y := ({ cls := "com/example/sigyn/sigyn/sip/SipScannerAtEndPinLaw", name := "sp", desc := "(C)Z" } : Jvm.MethodName)) hown (wd_93 hw) (wd_94 hw) (wd_2 hw) (wd_95 hw) (by decide) (backOf (W := 0) (rm_sp l Z a0 hw zc vfm (v1_232) T_251.heap n0 (Nat.le_trans Z0 KP_251.1) hSt O_251) hZ (wd_95 hw) (wd_2 hw) (by decide) (by decide)) rfl (g := (mkF m 124 #[.val (.int p0), .val (.int p1), .val (.int p2), .val (.int p3), .val (.int (3 : Int32)), .val (.int v1_232), .val (.int v1_233), .val (.int v1_234), .val (.ref b235), .val (.ref b242), .val (.ref b246), .val (.int (if (0 : Int32) = (3 : Int32) then (1 : Int32) else 0)), .unset, .unset, .unset] [(.int v1_232)])) rfl (by rw [hml]; rfl) (argsL := [(.int v1_232)]) (rest := []) rfl (lenOf pd_3 rfl) rfl (by show 2 * 0 + _ ≤ _; exact Nat.le_of_eq rfl) (hb hby at_124) (by decide) (by decide)
    obtain ⟨rfl, Nq_252, e_252⟩ := hQ_252
    have N_252 := Fr.app N_251 Nq_252
    refine Go.step st_252 ?_
    show Go p e below _ (T_252.setTop (mkF m 127 #[.val (.int p0), .val (.int p1), .val (.int p2), .val (.int p3), .val (.int (3 : Int32)), .val (.int v1_232), .val (.int v1_233), .val (.int v1_234), .val (.ref b235), .val (.ref b242), .val (.ref b246), .val (.int (if (0 : Int32) = (3 : Int32) then (1 : Int32) else 0)), .unset, .unset, .unset] [(.int (if isp v1_232 then (1 : Int32) else 0))]))
    by_cases z0 : isp v1_232
    · skip
      refine Go.step (fun _ k => XS.ifNo X_252.here hx rfl (hb hby at_127) rfl ((if0 _ _).trans (feq (b01_ne z0)).1) k) ?_
      show Go p e below _ (T_252.setTop (mkF m 130 #[.val (.int p0), .val (.int p1), .val (.int p2), .val (.int p3), .val (.int (3 : Int32)), .val (.int v1_232), .val (.int v1_233), .val (.int v1_234), .val (.ref b235), .val (.ref b242), .val (.ref b246), .val (.int (if (0 : Int32) = (3 : Int32) then (1 : Int32) else 0)), .unset, .unset, .unset] []))
      refine Go.step (fun _ k => XS.iload X_252.here hx rfl (hb hby at_130) rfl  k) ?_
      show Go p e below _ (T_252.setTop (mkF m 132 #[.val (.int p0), .val (.int p1), .val (.int p2), .val (.int p3), .val (.int (3 : Int32)), .val (.int v1_232), .val (.int v1_233), .val (.int v1_234), .val (.ref b235), .val (.ref b242), .val (.ref b246), .val (.int (if (0 : Int32) = (3 : Int32) then (1 : Int32) else 0)), .unset, .unset, .unset] [(.int (3 : Int32))]))
      refine Go.step (fun _ k => XS.iconst X_252.here hx rfl (hb hby at_132) k) ?_
      show Go p e below _ (T_252.setTop (mkF m 133 #[.val (.int p0), .val (.int p1), .val (.int p2), .val (.int p3), .val (.int (3 : Int32)), .val (.int v1_232), .val (.int v1_233), .val (.int v1_234), .val (.ref b235), .val (.ref b242), .val (.ref b246), .val (.int (if (0 : Int32) = (3 : Int32) then (1 : Int32) else 0)), .unset, .unset, .unset] [(.int (2 : Int32)), (.int (3 : Int32))]))
      refine Go.step (fun _ k => XS.icmpNo X_252.here hx rfl (hb hby at_133) rfl (flt ((by decide) : ¬ ((3 : Int32) < (2 : Int32)))).1 k) ?_
      show Go p e below _ (T_252.setTop (mkF m 136 #[.val (.int p0), .val (.int p1), .val (.int p2), .val (.int p3), .val (.int (3 : Int32)), .val (.int v1_232), .val (.int v1_233), .val (.int v1_234), .val (.ref b235), .val (.ref b242), .val (.ref b246), .val (.int (if (0 : Int32) = (3 : Int32) then (1 : Int32) else 0)), .unset, .unset, .unset] []))
      refine Go.step (fun _ k => XS.iload X_252.here hx rfl (hb hby at_136) rfl  k) ?_
      show Go p e below _ (T_252.setTop (mkF m 138 #[.val (.int p0), .val (.int p1), .val (.int p2), .val (.int p3), .val (.int (3 : Int32)), .val (.int v1_232), .val (.int v1_233), .val (.int v1_234), .val (.ref b235), .val (.ref b242), .val (.ref b246), .val (.int (if (0 : Int32) = (3 : Int32) then (1 : Int32) else 0)), .unset, .unset, .unset] [(.int v1_233)]))
      obtain ⟨v_253, T_253, L_253, X_253, hQ_253, st_253⟩ := goS X_252 hx hZ (y := ({ cls := "com/example/sigyn/sigyn/sip/SipScannerAtEndPinLaw", name := "sp", desc := "(C)Z" } : Jvm.MethodName)) hown (wd_93 hw) (wd_94 hw) (wd_2 hw) (wd_95 hw) (by decide) (backOf (W := 0) (rm_sp l Z a0 hw zc vfm (v1_233) T_251.heap n0 (Nat.le_trans Z0 KP_251.1) hSt O_251) hZ (wd_95 hw) (wd_2 hw) (by decide) (by decide)) e_252 (g := (mkF m 138 #[.val (.int p0), .val (.int p1), .val (.int p2), .val (.int p3), .val (.int (3 : Int32)), .val (.int v1_232), .val (.int v1_233), .val (.int v1_234), .val (.ref b235), .val (.ref b242), .val (.ref b246), .val (.int (if (0 : Int32) = (3 : Int32) then (1 : Int32) else 0)), .unset, .unset, .unset] [(.int v1_233)])) rfl (by rw [hml]; rfl) (argsL := [(.int v1_233)]) (rest := []) rfl (lenOf pd_3 rfl) rfl (by show 2 * 0 + _ ≤ _; exact Nat.le_of_eq rfl) (hb hby at_138) (by decide) (by decide)
      obtain ⟨rfl, Nq_253, e_253⟩ := hQ_253
      have N_253 := Fr.app N_252 Nq_253
      refine Go.step st_253 ?_
      show Go p e below _ (T_253.setTop (mkF m 141 #[.val (.int p0), .val (.int p1), .val (.int p2), .val (.int p3), .val (.int (3 : Int32)), .val (.int v1_232), .val (.int v1_233), .val (.int v1_234), .val (.ref b235), .val (.ref b242), .val (.ref b246), .val (.int (if (0 : Int32) = (3 : Int32) then (1 : Int32) else 0)), .unset, .unset, .unset] [(.int (if isp v1_233 then (1 : Int32) else 0))]))
      by_cases z1 : isp v1_233
      · skip
        refine Go.step (fun _ k => XS.ifNo X_253.here hx rfl (hb hby at_141) rfl ((if0 _ _).trans (feq (b01_ne z1)).1) k) ?_
        show Go p e below _ (T_253.setTop (mkF m 144 #[.val (.int p0), .val (.int p1), .val (.int p2), .val (.int p3), .val (.int (3 : Int32)), .val (.int v1_232), .val (.int v1_233), .val (.int v1_234), .val (.ref b235), .val (.ref b242), .val (.ref b246), .val (.int (if (0 : Int32) = (3 : Int32) then (1 : Int32) else 0)), .unset, .unset, .unset] []))
        refine Go.step (fun _ k => XS.iload X_253.here hx rfl (hb hby at_144) rfl  k) ?_
        show Go p e below _ (T_253.setTop (mkF m 146 #[.val (.int p0), .val (.int p1), .val (.int p2), .val (.int p3), .val (.int (3 : Int32)), .val (.int v1_232), .val (.int v1_233), .val (.int v1_234), .val (.ref b235), .val (.ref b242), .val (.ref b246), .val (.int (if (0 : Int32) = (3 : Int32) then (1 : Int32) else 0)), .unset, .unset, .unset] [(.int (3 : Int32))]))
        refine Go.step (fun _ k => XS.iconst X_253.here hx rfl (hb hby at_146) k) ?_
        show Go p e below _ (T_253.setTop (mkF m 147 #[.val (.int p0), .val (.int p1), .val (.int p2), .val (.int p3), .val (.int (3 : Int32)), .val (.int v1_232), .val (.int v1_233), .val (.int v1_234), .val (.ref b235), .val (.ref b242), .val (.ref b246), .val (.int (if (0 : Int32) = (3 : Int32) then (1 : Int32) else 0)), .unset, .unset, .unset] [(.int (3 : Int32)), (.int (3 : Int32))]))
        refine Go.step (fun _ k => XS.icmpNo X_253.here hx rfl (hb hby at_147) rfl (flt ((by decide) : ¬ ((3 : Int32) < (3 : Int32)))).1 k) ?_
        show Go p e below _ (T_253.setTop (mkF m 150 #[.val (.int p0), .val (.int p1), .val (.int p2), .val (.int p3), .val (.int (3 : Int32)), .val (.int v1_232), .val (.int v1_233), .val (.int v1_234), .val (.ref b235), .val (.ref b242), .val (.ref b246), .val (.int (if (0 : Int32) = (3 : Int32) then (1 : Int32) else 0)), .unset, .unset, .unset] []))
        refine Go.step (fun _ k => XS.iload X_253.here hx rfl (hb hby at_150) rfl  k) ?_
        show Go p e below _ (T_253.setTop (mkF m 152 #[.val (.int p0), .val (.int p1), .val (.int p2), .val (.int p3), .val (.int (3 : Int32)), .val (.int v1_232), .val (.int v1_233), .val (.int v1_234), .val (.ref b235), .val (.ref b242), .val (.ref b246), .val (.int (if (0 : Int32) = (3 : Int32) then (1 : Int32) else 0)), .unset, .unset, .unset] [(.int v1_234)]))
        obtain ⟨v_254, T_254, L_254, X_254, hQ_254, st_254⟩ := goS X_253 hx hZ (y := ({ cls := "com/example/sigyn/sigyn/sip/SipScannerAtEndPinLaw", name := "sp", desc := "(C)Z" } : Jvm.MethodName)) hown (wd_93 hw) (wd_94 hw) (wd_2 hw) (wd_95 hw) (by decide) (backOf (W := 0) (rm_sp l Z a0 hw zc vfm (v1_234) T_251.heap n0 (Nat.le_trans Z0 KP_251.1) hSt O_251) hZ (wd_95 hw) (wd_2 hw) (by decide) (by decide)) e_253 (g := (mkF m 152 #[.val (.int p0), .val (.int p1), .val (.int p2), .val (.int p3), .val (.int (3 : Int32)), .val (.int v1_232), .val (.int v1_233), .val (.int v1_234), .val (.ref b235), .val (.ref b242), .val (.ref b246), .val (.int (if (0 : Int32) = (3 : Int32) then (1 : Int32) else 0)), .unset, .unset, .unset] [(.int v1_234)])) rfl (by rw [hml]; rfl) (argsL := [(.int v1_234)]) (rest := []) rfl (lenOf pd_3 rfl) rfl (by show 2 * 0 + _ ≤ _; exact Nat.le_of_eq rfl) (hb hby at_152) (by decide) (by decide)
        obtain ⟨rfl, Nq_254, e_254⟩ := hQ_254
        have N_254 := Fr.app N_253 Nq_254
        refine Go.step st_254 ?_
        show Go p e below _ (T_254.setTop (mkF m 155 #[.val (.int p0), .val (.int p1), .val (.int p2), .val (.int p3), .val (.int (3 : Int32)), .val (.int v1_232), .val (.int v1_233), .val (.int v1_234), .val (.ref b235), .val (.ref b242), .val (.ref b246), .val (.int (if (0 : Int32) = (3 : Int32) then (1 : Int32) else 0)), .unset, .unset, .unset] [(.int (if isp v1_234 then (1 : Int32) else 0))]))
        by_cases z2 : isp v1_234
        · skip
          refine Go.step (fun _ k => XS.ifNo X_254.here hx rfl (hb hby at_155) rfl ((if0 _ _).trans (feq (b01_ne z2)).1) k) ?_
          show Go p e below _ (T_254.setTop (mkF m 158 #[.val (.int p0), .val (.int p1), .val (.int p2), .val (.int p3), .val (.int (3 : Int32)), .val (.int v1_232), .val (.int v1_233), .val (.int v1_234), .val (.ref b235), .val (.ref b242), .val (.ref b246), .val (.int (if (0 : Int32) = (3 : Int32) then (1 : Int32) else 0)), .unset, .unset, .unset] []))
          refine Go.step (fun _ k => XS.iconst X_254.here hx rfl (hb hby at_158) k) ?_
          show Go p e below _ (T_254.setTop (mkF m 159 #[.val (.int p0), .val (.int p1), .val (.int p2), .val (.int p3), .val (.int (3 : Int32)), .val (.int v1_232), .val (.int v1_233), .val (.int v1_234), .val (.ref b235), .val (.ref b242), .val (.ref b246), .val (.int (if (0 : Int32) = (3 : Int32) then (1 : Int32) else 0)), .unset, .unset, .unset] [(.int (1 : Int32))]))
          refine Go.step (fun _ k => XS.goto X_254.here hx rfl (pc0 := 159) (pc' := 163) rfl (hb hby at_159) (by decide) (by decide) k) ?_
          show Go p e below _ (T_254.setTop (mkF m 163 #[.val (.int p0), .val (.int p1), .val (.int p2), .val (.int p3), .val (.int (3 : Int32)), .val (.int v1_232), .val (.int v1_233), .val (.int v1_234), .val (.ref b235), .val (.ref b242), .val (.ref b246), .val (.int (if (0 : Int32) = (3 : Int32) then (1 : Int32) else 0)), .unset, .unset, .unset] [(.int (1 : Int32))]))
          refine Go.step (fun _ k => XS.istore X_254.here hx rfl (hb hby at_163) rfl (l' := #[.val (.int p0), .val (.int p1), .val (.int p2), .val (.int p3), .val (.int (3 : Int32)), .val (.int v1_232), .val (.int v1_233), .val (.int v1_234), .val (.ref b235), .val (.ref b242), .val (.ref b246), .val (.int (if (0 : Int32) = (3 : Int32) then (1 : Int32) else 0)), .val (.int (1 : Int32)), .unset, .unset]) rfl k) ?_
          show Go p e below _ (T_254.setTop (mkF m 165 #[.val (.int p0), .val (.int p1), .val (.int p2), .val (.int p3), .val (.int (3 : Int32)), .val (.int v1_232), .val (.int v1_233), .val (.int v1_234), .val (.ref b235), .val (.ref b242), .val (.ref b246), .val (.int (if (0 : Int32) = (3 : Int32) then (1 : Int32) else 0)), .val (.int (1 : Int32)), .unset, .unset] []))
          refine Go.step (fun _ k => XS.aload X_254.here hx rfl (hb hby at_165) rfl rfl k) ?_
          show Go p e below _ (T_254.setTop (mkF m 167 #[.val (.int p0), .val (.int p1), .val (.int p2), .val (.int p3), .val (.int (3 : Int32)), .val (.int v1_232), .val (.int v1_233), .val (.int v1_234), .val (.ref b235), .val (.ref b242), .val (.ref b246), .val (.int (if (0 : Int32) = (3 : Int32) then (1 : Int32) else 0)), .val (.int (1 : Int32)), .unset, .unset] [(.ref b246)]))
          have f255 : Str Z (T_245.heap).size T_251.heap b242 ([v1_232, v1_233, v1_234] : List Int32) := (f248.keep K_251 (allS (Nat.le_trans (Nat.le_refl _) ge_246) all0))
          have f257 : Exa Z T_251.heap b246 "com/example/sigyn/sigyn/sip/SipScanner" := (f250.keep K_251)
          obtain ⟨v_256, T_256, L_256, X_256, hQ_256, st_256⟩ := goV X_254 hx hZ (y := ({ cls := "com/example/sigyn/sigyn/sip/SipScanner", name := "atEnd", desc := "()Z" } : Jvm.MethodName)) (z := ({ cls := "com/example/sigyn/sigyn/sip/SipScanner", name := "atEnd", desc := "()Z" } : Jvm.MethodName)) hown (wd_35 hw) (wd_36 hw) (notFace_of_selects (args := #[]) (mvT hZ (wd_38 hw))) (wd_38 hw) (wd_37 hw) (by decide) (backOf (W := 0) (rm_atEnd l Z a0 hw zc vfm (b246) (v1_251) (b242) (([v1_232, v1_233, v1_234] : List Int32)) ((3 : Int32)) T_251.heap n0 (Nat.le_trans Z0 KP_251.1) u0_251 u1_251 (f255.mono (Nat.le_trans le_246 (Nat.le_trans le_247 le_251))) rfl hSt O_251) hZ (wd_39 hw) (wd_28 hw) (by decide) (by decide)) e_254 f257 (g := (mkF m 167 #[.val (.int p0), .val (.int p1), .val (.int p2), .val (.int p3), .val (.int (3 : Int32)), .val (.int v1_232), .val (.int v1_233), .val (.int v1_234), .val (.ref b235), .val (.ref b242), .val (.ref b246), .val (.int (if (0 : Int32) = (3 : Int32) then (1 : Int32) else 0)), .val (.int (1 : Int32)), .unset, .unset] [(.ref b246)])) rfl (by rw [hml]; rfl) (argsL := []) (rest := []) rfl (lenOf pd_6 rfl) rfl (by show 2 * 0 + _ ≤ _; exact Nat.le_of_eq rfl) (hb hby at_167) (by decide) (by decide)
          obtain ⟨rfl, Nq_256, e_256⟩ := hQ_256
          have N_256 := Fr.app N_254 Nq_256
          refine Go.step st_256 ?_
          show Go p e below _ (T_256.setTop (mkF m 170 #[.val (.int p0), .val (.int p1), .val (.int p2), .val (.int p3), .val (.int (3 : Int32)), .val (.int v1_232), .val (.int v1_233), .val (.int v1_234), .val (.ref b235), .val (.ref b242), .val (.ref b246), .val (.int (if (0 : Int32) = (3 : Int32) then (1 : Int32) else 0)), .val (.int (1 : Int32)), .unset, .unset] [(.int (if v1_251 = (3 : Int32) then (1 : Int32) else 0))]))
          refine Go.step (fun _ k => XS.istore X_256.here hx rfl (hb hby at_170) rfl (l' := #[.val (.int p0), .val (.int p1), .val (.int p2), .val (.int p3), .val (.int (3 : Int32)), .val (.int v1_232), .val (.int v1_233), .val (.int v1_234), .val (.ref b235), .val (.ref b242), .val (.ref b246), .val (.int (if (0 : Int32) = (3 : Int32) then (1 : Int32) else 0)), .val (.int (1 : Int32)), .val (.int (if v1_251 = (3 : Int32) then (1 : Int32) else 0)), .unset]) rfl k) ?_
          show Go p e below _ (T_256.setTop (mkF m 172 #[.val (.int p0), .val (.int p1), .val (.int p2), .val (.int p3), .val (.int (3 : Int32)), .val (.int v1_232), .val (.int v1_233), .val (.int v1_234), .val (.ref b235), .val (.ref b242), .val (.ref b246), .val (.int (if (0 : Int32) = (3 : Int32) then (1 : Int32) else 0)), .val (.int (1 : Int32)), .val (.int (if v1_251 = (3 : Int32) then (1 : Int32) else 0)), .unset] []))
          refine Go.step (fun _ k => XS.aload X_256.here hx rfl (hb hby at_172) rfl rfl k) ?_
          show Go p e below _ (T_256.setTop (mkF m 174 #[.val (.int p0), .val (.int p1), .val (.int p2), .val (.int p3), .val (.int (3 : Int32)), .val (.int v1_232), .val (.int v1_233), .val (.int v1_234), .val (.ref b235), .val (.ref b242), .val (.ref b246), .val (.int (if (0 : Int32) = (3 : Int32) then (1 : Int32) else 0)), .val (.int (1 : Int32)), .val (.int (if v1_251 = (3 : Int32) then (1 : Int32) else 0)), .unset] [(.ref b246)]))
          obtain ⟨v_258, T_258, L_258, X_258, hQ_258, st_258⟩ := goV X_256 hx hZ (y := ({ cls := "com/example/sigyn/sigyn/sip/SipScanner", name := "atEnd", desc := "()Z" } : Jvm.MethodName)) (z := ({ cls := "com/example/sigyn/sigyn/sip/SipScanner", name := "atEnd", desc := "()Z" } : Jvm.MethodName)) hown (wd_35 hw) (wd_36 hw) (notFace_of_selects (args := #[]) (mvT hZ (wd_38 hw))) (wd_38 hw) (wd_37 hw) (by decide) (backOf (W := 0) (rm_atEnd l Z a0 hw zc vfm (b246) (v1_251) (b242) (([v1_232, v1_233, v1_234] : List Int32)) ((3 : Int32)) T_251.heap n0 (Nat.le_trans Z0 KP_251.1) u0_251 u1_251 (f255.mono (Nat.le_trans le_246 (Nat.le_trans le_247 le_251))) rfl hSt O_251) hZ (wd_39 hw) (wd_28 hw) (by decide) (by decide)) e_256 f257 (g := (mkF m 174 #[.val (.int p0), .val (.int p1), .val (.int p2), .val (.int p3), .val (.int (3 : Int32)), .val (.int v1_232), .val (.int v1_233), .val (.int v1_234), .val (.ref b235), .val (.ref b242), .val (.ref b246), .val (.int (if (0 : Int32) = (3 : Int32) then (1 : Int32) else 0)), .val (.int (1 : Int32)), .val (.int (if v1_251 = (3 : Int32) then (1 : Int32) else 0)), .unset] [(.ref b246)])) rfl (by rw [hml]; rfl) (argsL := []) (rest := []) rfl (lenOf pd_6 rfl) rfl (by show 2 * 0 + _ ≤ _; exact Nat.le_of_eq rfl) (hb hby at_174) (by decide) (by decide)
          obtain ⟨rfl, Nq_258, e_258⟩ := hQ_258
          have N_258 := Fr.app N_256 Nq_258
          refine Go.step st_258 ?_
          show Go p e below _ (T_258.setTop (mkF m 177 #[.val (.int p0), .val (.int p1), .val (.int p2), .val (.int p3), .val (.int (3 : Int32)), .val (.int v1_232), .val (.int v1_233), .val (.int v1_234), .val (.ref b235), .val (.ref b242), .val (.ref b246), .val (.int (if (0 : Int32) = (3 : Int32) then (1 : Int32) else 0)), .val (.int (1 : Int32)), .val (.int (if v1_251 = (3 : Int32) then (1 : Int32) else 0)), .unset] [(.int (if v1_251 = (3 : Int32) then (1 : Int32) else 0))]))
          refine Go.step (fun _ k => XS.istore X_258.here hx rfl (hb hby at_177) rfl (l' := #[.val (.int p0), .val (.int p1), .val (.int p2), .val (.int p3), .val (.int (3 : Int32)), .val (.int v1_232), .val (.int v1_233), .val (.int v1_234), .val (.ref b235), .val (.ref b242), .val (.ref b246), .val (.int (if (0 : Int32) = (3 : Int32) then (1 : Int32) else 0)), .val (.int (1 : Int32)), .val (.int (if v1_251 = (3 : Int32) then (1 : Int32) else 0)), .val (.int (if v1_251 = (3 : Int32) then (1 : Int32) else 0))]) rfl k) ?_
          show Go p e below _ (T_258.setTop (mkF m 179 #[.val (.int p0), .val (.int p1), .val (.int p2), .val (.int p3), .val (.int (3 : Int32)), .val (.int v1_232), .val (.int v1_233), .val (.int v1_234), .val (.ref b235), .val (.ref b242), .val (.ref b246), .val (.int (if (0 : Int32) = (3 : Int32) then (1 : Int32) else 0)), .val (.int (1 : Int32)), .val (.int (if v1_251 = (3 : Int32) then (1 : Int32) else 0)), .val (.int (if v1_251 = (3 : Int32) then (1 : Int32) else 0))] []))
          refine Go.step (fun _ k => XS.iload X_258.here hx rfl (hb hby at_179) rfl  k) ?_
          show Go p e below _ (T_258.setTop (mkF m 181 #[.val (.int p0), .val (.int p1), .val (.int p2), .val (.int p3), .val (.int (3 : Int32)), .val (.int v1_232), .val (.int v1_233), .val (.int v1_234), .val (.ref b235), .val (.ref b242), .val (.ref b246), .val (.int (if (0 : Int32) = (3 : Int32) then (1 : Int32) else 0)), .val (.int (1 : Int32)), .val (.int (if v1_251 = (3 : Int32) then (1 : Int32) else 0)), .val (.int (if v1_251 = (3 : Int32) then (1 : Int32) else 0))] [(.int (if v1_251 = (3 : Int32) then (1 : Int32) else 0))]))
          refine Go.step (fun _ k => XS.iload X_258.here hx rfl (hb hby at_181) rfl  k) ?_
          show Go p e below _ (T_258.setTop (mkF m 183 #[.val (.int p0), .val (.int p1), .val (.int p2), .val (.int p3), .val (.int (3 : Int32)), .val (.int v1_232), .val (.int v1_233), .val (.int v1_234), .val (.ref b235), .val (.ref b242), .val (.ref b246), .val (.int (if (0 : Int32) = (3 : Int32) then (1 : Int32) else 0)), .val (.int (1 : Int32)), .val (.int (if v1_251 = (3 : Int32) then (1 : Int32) else 0)), .val (.int (if v1_251 = (3 : Int32) then (1 : Int32) else 0))] [(.int (1 : Int32)), (.int (if v1_251 = (3 : Int32) then (1 : Int32) else 0))]))
          refine Go.step (fun _ k => XS.icmpNo X_258.here hx rfl (hb hby at_183) rfl (teq ((if_pos (hv.mpr ⟨z0, z1, z2⟩)) : (if v1_251 = (3 : Int32) then (1 : Int32) else 0) = (1 : Int32))).2 k) ?_
          show Go p e below _ (T_258.setTop (mkF m 186 #[.val (.int p0), .val (.int p1), .val (.int p2), .val (.int p3), .val (.int (3 : Int32)), .val (.int v1_232), .val (.int v1_233), .val (.int v1_234), .val (.ref b235), .val (.ref b242), .val (.ref b246), .val (.int (if (0 : Int32) = (3 : Int32) then (1 : Int32) else 0)), .val (.int (1 : Int32)), .val (.int (if v1_251 = (3 : Int32) then (1 : Int32) else 0)), .val (.int (if v1_251 = (3 : Int32) then (1 : Int32) else 0))] []))
          refine Go.step (fun _ k => XS.iload X_258.here hx rfl (hb hby at_186) rfl  k) ?_
          show Go p e below _ (T_258.setTop (mkF m 188 #[.val (.int p0), .val (.int p1), .val (.int p2), .val (.int p3), .val (.int (3 : Int32)), .val (.int v1_232), .val (.int v1_233), .val (.int v1_234), .val (.ref b235), .val (.ref b242), .val (.ref b246), .val (.int (if (0 : Int32) = (3 : Int32) then (1 : Int32) else 0)), .val (.int (1 : Int32)), .val (.int (if v1_251 = (3 : Int32) then (1 : Int32) else 0)), .val (.int (if v1_251 = (3 : Int32) then (1 : Int32) else 0))] [(.int (if v1_251 = (3 : Int32) then (1 : Int32) else 0))]))
          refine Go.step (fun _ k => XS.iload X_258.here hx rfl (hb hby at_188) rfl  k) ?_
          show Go p e below _ (T_258.setTop (mkF m 190 #[.val (.int p0), .val (.int p1), .val (.int p2), .val (.int p3), .val (.int (3 : Int32)), .val (.int v1_232), .val (.int v1_233), .val (.int v1_234), .val (.ref b235), .val (.ref b242), .val (.ref b246), .val (.int (if (0 : Int32) = (3 : Int32) then (1 : Int32) else 0)), .val (.int (1 : Int32)), .val (.int (if v1_251 = (3 : Int32) then (1 : Int32) else 0)), .val (.int (if v1_251 = (3 : Int32) then (1 : Int32) else 0))] [(.int (if v1_251 = (3 : Int32) then (1 : Int32) else 0)), (.int (if v1_251 = (3 : Int32) then (1 : Int32) else 0))]))
          refine Go.step (fun _ k => XS.icmpNo X_258.here hx rfl (hb hby at_190) rfl (teq (rfl : (if v1_251 = (3 : Int32) then (1 : Int32) else 0) = (if v1_251 = (3 : Int32) then (1 : Int32) else 0))).2 k) ?_
          show Go p e below _ (T_258.setTop (mkF m 193 #[.val (.int p0), .val (.int p1), .val (.int p2), .val (.int p3), .val (.int (3 : Int32)), .val (.int v1_232), .val (.int v1_233), .val (.int v1_234), .val (.ref b235), .val (.ref b242), .val (.ref b246), .val (.int (if (0 : Int32) = (3 : Int32) then (1 : Int32) else 0)), .val (.int (1 : Int32)), .val (.int (if v1_251 = (3 : Int32) then (1 : Int32) else 0)), .val (.int (if v1_251 = (3 : Int32) then (1 : Int32) else 0))] []))
          refine Go.step (fun _ k => XS.iconst X_258.here hx rfl (hb hby at_193) k) ?_
          show Go p e below _ (T_258.setTop (mkF m 194 #[.val (.int p0), .val (.int p1), .val (.int p2), .val (.int p3), .val (.int (3 : Int32)), .val (.int v1_232), .val (.int v1_233), .val (.int v1_234), .val (.ref b235), .val (.ref b242), .val (.ref b246), .val (.int (if (0 : Int32) = (3 : Int32) then (1 : Int32) else 0)), .val (.int (1 : Int32)), .val (.int (if v1_251 = (3 : Int32) then (1 : Int32) else 0)), .val (.int (if v1_251 = (3 : Int32) then (1 : Int32) else 0))] [(.int (1 : Int32))]))
          refine Go.step (fun _ k => XS.goto X_258.here hx rfl (pc0 := 194) (pc' := 198) rfl (hb hby at_194) (by decide) (by decide) k) ?_
          show Go p e below _ (T_258.setTop (mkF m 198 #[.val (.int p0), .val (.int p1), .val (.int p2), .val (.int p3), .val (.int (3 : Int32)), .val (.int v1_232), .val (.int v1_233), .val (.int v1_234), .val (.ref b235), .val (.ref b242), .val (.ref b246), .val (.int (if (0 : Int32) = (3 : Int32) then (1 : Int32) else 0)), .val (.int (1 : Int32)), .val (.int (if v1_251 = (3 : Int32) then (1 : Int32) else 0)), .val (.int (if v1_251 = (3 : Int32) then (1 : Int32) else 0))] [(.int (1 : Int32))]))
          exact Go.retVW X_258 e_258 hS0 (Nat.le_trans hk0 (Nat.le_trans le_235 (Nat.le_trans le_236 (Nat.le_trans le_238 (Nat.le_trans le_240 (Nat.le_trans le_242 (Nat.le_trans le_245 (Nat.le_trans le_246 (Nat.le_trans le_247 le_251))))))))) hZ hEL hh0 CR_251 hx hlk hret rfl (Or.inl ⟨rfl, Or.inr (Or.inl rfl), _, rfl⟩) (hb hby at_198) (by decide) (by decide) (by rw [e_258]; exact ⟨rfl, N_258⟩)
        · skip
          refine Go.step (fun _ k => XS.ifYes X_254.here hx rfl (pc0 := 155) (pc' := 162) rfl (hb hby at_155) rfl ((if0 _ _).trans (teq (b01_eq z2)).1) (by decide) (by decide) k) ?_
          show Go p e below _ (T_254.setTop (mkF m 162 #[.val (.int p0), .val (.int p1), .val (.int p2), .val (.int p3), .val (.int (3 : Int32)), .val (.int v1_232), .val (.int v1_233), .val (.int v1_234), .val (.ref b235), .val (.ref b242), .val (.ref b246), .val (.int (if (0 : Int32) = (3 : Int32) then (1 : Int32) else 0)), .unset, .unset, .unset] []))
          refine Go.step (fun _ k => XS.iconst X_254.here hx rfl (hb hby at_162) k) ?_
          show Go p e below _ (T_254.setTop (mkF m 163 #[.val (.int p0), .val (.int p1), .val (.int p2), .val (.int p3), .val (.int (3 : Int32)), .val (.int v1_232), .val (.int v1_233), .val (.int v1_234), .val (.ref b235), .val (.ref b242), .val (.ref b246), .val (.int (if (0 : Int32) = (3 : Int32) then (1 : Int32) else 0)), .unset, .unset, .unset] [(.int (0 : Int32))]))
          refine Go.step (fun _ k => XS.istore X_254.here hx rfl (hb hby at_163) rfl (l' := #[.val (.int p0), .val (.int p1), .val (.int p2), .val (.int p3), .val (.int (3 : Int32)), .val (.int v1_232), .val (.int v1_233), .val (.int v1_234), .val (.ref b235), .val (.ref b242), .val (.ref b246), .val (.int (if (0 : Int32) = (3 : Int32) then (1 : Int32) else 0)), .val (.int (0 : Int32)), .unset, .unset]) rfl k) ?_
          show Go p e below _ (T_254.setTop (mkF m 165 #[.val (.int p0), .val (.int p1), .val (.int p2), .val (.int p3), .val (.int (3 : Int32)), .val (.int v1_232), .val (.int v1_233), .val (.int v1_234), .val (.ref b235), .val (.ref b242), .val (.ref b246), .val (.int (if (0 : Int32) = (3 : Int32) then (1 : Int32) else 0)), .val (.int (0 : Int32)), .unset, .unset] []))
          refine Go.step (fun _ k => XS.aload X_254.here hx rfl (hb hby at_165) rfl rfl k) ?_
          show Go p e below _ (T_254.setTop (mkF m 167 #[.val (.int p0), .val (.int p1), .val (.int p2), .val (.int p3), .val (.int (3 : Int32)), .val (.int v1_232), .val (.int v1_233), .val (.int v1_234), .val (.ref b235), .val (.ref b242), .val (.ref b246), .val (.int (if (0 : Int32) = (3 : Int32) then (1 : Int32) else 0)), .val (.int (0 : Int32)), .unset, .unset] [(.ref b246)]))
          have f259 : Str Z (T_245.heap).size T_251.heap b242 ([v1_232, v1_233, v1_234] : List Int32) := (f248.keep K_251 (allS (Nat.le_trans (Nat.le_refl _) ge_246) all0))
          have f261 : Exa Z T_251.heap b246 "com/example/sigyn/sigyn/sip/SipScanner" := (f250.keep K_251)
          obtain ⟨v_260, T_260, L_260, X_260, hQ_260, st_260⟩ := goV X_254 hx hZ (y := ({ cls := "com/example/sigyn/sigyn/sip/SipScanner", name := "atEnd", desc := "()Z" } : Jvm.MethodName)) (z := ({ cls := "com/example/sigyn/sigyn/sip/SipScanner", name := "atEnd", desc := "()Z" } : Jvm.MethodName)) hown (wd_35 hw) (wd_36 hw) (notFace_of_selects (args := #[]) (mvT hZ (wd_38 hw))) (wd_38 hw) (wd_37 hw) (by decide) (backOf (W := 0) (rm_atEnd l Z a0 hw zc vfm (b246) (v1_251) (b242) (([v1_232, v1_233, v1_234] : List Int32)) ((3 : Int32)) T_251.heap n0 (Nat.le_trans Z0 KP_251.1) u0_251 u1_251 (f259.mono (Nat.le_trans le_246 (Nat.le_trans le_247 le_251))) rfl hSt O_251) hZ (wd_39 hw) (wd_28 hw) (by decide) (by decide)) e_254 f261 (g := (mkF m 167 #[.val (.int p0), .val (.int p1), .val (.int p2), .val (.int p3), .val (.int (3 : Int32)), .val (.int v1_232), .val (.int v1_233), .val (.int v1_234), .val (.ref b235), .val (.ref b242), .val (.ref b246), .val (.int (if (0 : Int32) = (3 : Int32) then (1 : Int32) else 0)), .val (.int (0 : Int32)), .unset, .unset] [(.ref b246)])) rfl (by rw [hml]; rfl) (argsL := []) (rest := []) rfl (lenOf pd_6 rfl) rfl (by show 2 * 0 + _ ≤ _; exact Nat.le_of_eq rfl) (hb hby at_167) (by decide) (by decide)
          obtain ⟨rfl, Nq_260, e_260⟩ := hQ_260
          have N_260 := Fr.app N_254 Nq_260
          refine Go.step st_260 ?_
          show Go p e below _ (T_260.setTop (mkF m 170 #[.val (.int p0), .val (.int p1), .val (.int p2), .val (.int p3), .val (.int (3 : Int32)), .val (.int v1_232), .val (.int v1_233), .val (.int v1_234), .val (.ref b235), .val (.ref b242), .val (.ref b246), .val (.int (if (0 : Int32) = (3 : Int32) then (1 : Int32) else 0)), .val (.int (0 : Int32)), .unset, .unset] [(.int (if v1_251 = (3 : Int32) then (1 : Int32) else 0))]))
          refine Go.step (fun _ k => XS.istore X_260.here hx rfl (hb hby at_170) rfl (l' := #[.val (.int p0), .val (.int p1), .val (.int p2), .val (.int p3), .val (.int (3 : Int32)), .val (.int v1_232), .val (.int v1_233), .val (.int v1_234), .val (.ref b235), .val (.ref b242), .val (.ref b246), .val (.int (if (0 : Int32) = (3 : Int32) then (1 : Int32) else 0)), .val (.int (0 : Int32)), .val (.int (if v1_251 = (3 : Int32) then (1 : Int32) else 0)), .unset]) rfl k) ?_
          show Go p e below _ (T_260.setTop (mkF m 172 #[.val (.int p0), .val (.int p1), .val (.int p2), .val (.int p3), .val (.int (3 : Int32)), .val (.int v1_232), .val (.int v1_233), .val (.int v1_234), .val (.ref b235), .val (.ref b242), .val (.ref b246), .val (.int (if (0 : Int32) = (3 : Int32) then (1 : Int32) else 0)), .val (.int (0 : Int32)), .val (.int (if v1_251 = (3 : Int32) then (1 : Int32) else 0)), .unset] []))
          refine Go.step (fun _ k => XS.aload X_260.here hx rfl (hb hby at_172) rfl rfl k) ?_
          show Go p e below _ (T_260.setTop (mkF m 174 #[.val (.int p0), .val (.int p1), .val (.int p2), .val (.int p3), .val (.int (3 : Int32)), .val (.int v1_232), .val (.int v1_233), .val (.int v1_234), .val (.ref b235), .val (.ref b242), .val (.ref b246), .val (.int (if (0 : Int32) = (3 : Int32) then (1 : Int32) else 0)), .val (.int (0 : Int32)), .val (.int (if v1_251 = (3 : Int32) then (1 : Int32) else 0)), .unset] [(.ref b246)]))
          obtain ⟨v_262, T_262, L_262, X_262, hQ_262, st_262⟩ := goV X_260 hx hZ (y := ({ cls := "com/example/sigyn/sigyn/sip/SipScanner", name := "atEnd", desc := "()Z" } : Jvm.MethodName)) (z := ({ cls := "com/example/sigyn/sigyn/sip/SipScanner", name := "atEnd", desc := "()Z" } : Jvm.MethodName)) hown (wd_35 hw) (wd_36 hw) (notFace_of_selects (args := #[]) (mvT hZ (wd_38 hw))) (wd_38 hw) (wd_37 hw) (by decide) (backOf (W := 0) (rm_atEnd l Z a0 hw zc vfm (b246) (v1_251) (b242) (([v1_232, v1_233, v1_234] : List Int32)) ((3 : Int32)) T_251.heap n0 (Nat.le_trans Z0 KP_251.1) u0_251 u1_251 (f259.mono (Nat.le_trans le_246 (Nat.le_trans le_247 le_251))) rfl hSt O_251) hZ (wd_39 hw) (wd_28 hw) (by decide) (by decide)) e_260 f261 (g := (mkF m 174 #[.val (.int p0), .val (.int p1), .val (.int p2), .val (.int p3), .val (.int (3 : Int32)), .val (.int v1_232), .val (.int v1_233), .val (.int v1_234), .val (.ref b235), .val (.ref b242), .val (.ref b246), .val (.int (if (0 : Int32) = (3 : Int32) then (1 : Int32) else 0)), .val (.int (0 : Int32)), .val (.int (if v1_251 = (3 : Int32) then (1 : Int32) else 0)), .unset] [(.ref b246)])) rfl (by rw [hml]; rfl) (argsL := []) (rest := []) rfl (lenOf pd_6 rfl) rfl (by show 2 * 0 + _ ≤ _; exact Nat.le_of_eq rfl) (hb hby at_174) (by decide) (by decide)
          obtain ⟨rfl, Nq_262, e_262⟩ := hQ_262
          have N_262 := Fr.app N_260 Nq_262
          refine Go.step st_262 ?_
          show Go p e below _ (T_262.setTop (mkF m 177 #[.val (.int p0), .val (.int p1), .val (.int p2), .val (.int p3), .val (.int (3 : Int32)), .val (.int v1_232), .val (.int v1_233), .val (.int v1_234), .val (.ref b235), .val (.ref b242), .val (.ref b246), .val (.int (if (0 : Int32) = (3 : Int32) then (1 : Int32) else 0)), .val (.int (0 : Int32)), .val (.int (if v1_251 = (3 : Int32) then (1 : Int32) else 0)), .unset] [(.int (if v1_251 = (3 : Int32) then (1 : Int32) else 0))]))
          refine Go.step (fun _ k => XS.istore X_262.here hx rfl (hb hby at_177) rfl (l' := #[.val (.int p0), .val (.int p1), .val (.int p2), .val (.int p3), .val (.int (3 : Int32)), .val (.int v1_232), .val (.int v1_233), .val (.int v1_234), .val (.ref b235), .val (.ref b242), .val (.ref b246), .val (.int (if (0 : Int32) = (3 : Int32) then (1 : Int32) else 0)), .val (.int (0 : Int32)), .val (.int (if v1_251 = (3 : Int32) then (1 : Int32) else 0)), .val (.int (if v1_251 = (3 : Int32) then (1 : Int32) else 0))]) rfl k) ?_
          show Go p e below _ (T_262.setTop (mkF m 179 #[.val (.int p0), .val (.int p1), .val (.int p2), .val (.int p3), .val (.int (3 : Int32)), .val (.int v1_232), .val (.int v1_233), .val (.int v1_234), .val (.ref b235), .val (.ref b242), .val (.ref b246), .val (.int (if (0 : Int32) = (3 : Int32) then (1 : Int32) else 0)), .val (.int (0 : Int32)), .val (.int (if v1_251 = (3 : Int32) then (1 : Int32) else 0)), .val (.int (if v1_251 = (3 : Int32) then (1 : Int32) else 0))] []))
          refine Go.step (fun _ k => XS.iload X_262.here hx rfl (hb hby at_179) rfl  k) ?_
          show Go p e below _ (T_262.setTop (mkF m 181 #[.val (.int p0), .val (.int p1), .val (.int p2), .val (.int p3), .val (.int (3 : Int32)), .val (.int v1_232), .val (.int v1_233), .val (.int v1_234), .val (.ref b235), .val (.ref b242), .val (.ref b246), .val (.int (if (0 : Int32) = (3 : Int32) then (1 : Int32) else 0)), .val (.int (0 : Int32)), .val (.int (if v1_251 = (3 : Int32) then (1 : Int32) else 0)), .val (.int (if v1_251 = (3 : Int32) then (1 : Int32) else 0))] [(.int (if v1_251 = (3 : Int32) then (1 : Int32) else 0))]))
          refine Go.step (fun _ k => XS.iload X_262.here hx rfl (hb hby at_181) rfl  k) ?_
          show Go p e below _ (T_262.setTop (mkF m 183 #[.val (.int p0), .val (.int p1), .val (.int p2), .val (.int p3), .val (.int (3 : Int32)), .val (.int v1_232), .val (.int v1_233), .val (.int v1_234), .val (.ref b235), .val (.ref b242), .val (.ref b246), .val (.int (if (0 : Int32) = (3 : Int32) then (1 : Int32) else 0)), .val (.int (0 : Int32)), .val (.int (if v1_251 = (3 : Int32) then (1 : Int32) else 0)), .val (.int (if v1_251 = (3 : Int32) then (1 : Int32) else 0))] [(.int (0 : Int32)), (.int (if v1_251 = (3 : Int32) then (1 : Int32) else 0))]))
          refine Go.step (fun _ k => XS.icmpNo X_262.here hx rfl (hb hby at_183) rfl (teq ((if_neg (fun q => absurd (hv.mp q).2.2 z2)) : (if v1_251 = (3 : Int32) then (1 : Int32) else 0) = (0 : Int32))).2 k) ?_
          show Go p e below _ (T_262.setTop (mkF m 186 #[.val (.int p0), .val (.int p1), .val (.int p2), .val (.int p3), .val (.int (3 : Int32)), .val (.int v1_232), .val (.int v1_233), .val (.int v1_234), .val (.ref b235), .val (.ref b242), .val (.ref b246), .val (.int (if (0 : Int32) = (3 : Int32) then (1 : Int32) else 0)), .val (.int (0 : Int32)), .val (.int (if v1_251 = (3 : Int32) then (1 : Int32) else 0)), .val (.int (if v1_251 = (3 : Int32) then (1 : Int32) else 0))] []))
          refine Go.step (fun _ k => XS.iload X_262.here hx rfl (hb hby at_186) rfl  k) ?_
          show Go p e below _ (T_262.setTop (mkF m 188 #[.val (.int p0), .val (.int p1), .val (.int p2), .val (.int p3), .val (.int (3 : Int32)), .val (.int v1_232), .val (.int v1_233), .val (.int v1_234), .val (.ref b235), .val (.ref b242), .val (.ref b246), .val (.int (if (0 : Int32) = (3 : Int32) then (1 : Int32) else 0)), .val (.int (0 : Int32)), .val (.int (if v1_251 = (3 : Int32) then (1 : Int32) else 0)), .val (.int (if v1_251 = (3 : Int32) then (1 : Int32) else 0))] [(.int (if v1_251 = (3 : Int32) then (1 : Int32) else 0))]))
          refine Go.step (fun _ k => XS.iload X_262.here hx rfl (hb hby at_188) rfl  k) ?_
          show Go p e below _ (T_262.setTop (mkF m 190 #[.val (.int p0), .val (.int p1), .val (.int p2), .val (.int p3), .val (.int (3 : Int32)), .val (.int v1_232), .val (.int v1_233), .val (.int v1_234), .val (.ref b235), .val (.ref b242), .val (.ref b246), .val (.int (if (0 : Int32) = (3 : Int32) then (1 : Int32) else 0)), .val (.int (0 : Int32)), .val (.int (if v1_251 = (3 : Int32) then (1 : Int32) else 0)), .val (.int (if v1_251 = (3 : Int32) then (1 : Int32) else 0))] [(.int (if v1_251 = (3 : Int32) then (1 : Int32) else 0)), (.int (if v1_251 = (3 : Int32) then (1 : Int32) else 0))]))
          refine Go.step (fun _ k => XS.icmpNo X_262.here hx rfl (hb hby at_190) rfl (teq (rfl : (if v1_251 = (3 : Int32) then (1 : Int32) else 0) = (if v1_251 = (3 : Int32) then (1 : Int32) else 0))).2 k) ?_
          show Go p e below _ (T_262.setTop (mkF m 193 #[.val (.int p0), .val (.int p1), .val (.int p2), .val (.int p3), .val (.int (3 : Int32)), .val (.int v1_232), .val (.int v1_233), .val (.int v1_234), .val (.ref b235), .val (.ref b242), .val (.ref b246), .val (.int (if (0 : Int32) = (3 : Int32) then (1 : Int32) else 0)), .val (.int (0 : Int32)), .val (.int (if v1_251 = (3 : Int32) then (1 : Int32) else 0)), .val (.int (if v1_251 = (3 : Int32) then (1 : Int32) else 0))] []))
          refine Go.step (fun _ k => XS.iconst X_262.here hx rfl (hb hby at_193) k) ?_
          show Go p e below _ (T_262.setTop (mkF m 194 #[.val (.int p0), .val (.int p1), .val (.int p2), .val (.int p3), .val (.int (3 : Int32)), .val (.int v1_232), .val (.int v1_233), .val (.int v1_234), .val (.ref b235), .val (.ref b242), .val (.ref b246), .val (.int (if (0 : Int32) = (3 : Int32) then (1 : Int32) else 0)), .val (.int (0 : Int32)), .val (.int (if v1_251 = (3 : Int32) then (1 : Int32) else 0)), .val (.int (if v1_251 = (3 : Int32) then (1 : Int32) else 0))] [(.int (1 : Int32))]))
          refine Go.step (fun _ k => XS.goto X_262.here hx rfl (pc0 := 194) (pc' := 198) rfl (hb hby at_194) (by decide) (by decide) k) ?_
          show Go p e below _ (T_262.setTop (mkF m 198 #[.val (.int p0), .val (.int p1), .val (.int p2), .val (.int p3), .val (.int (3 : Int32)), .val (.int v1_232), .val (.int v1_233), .val (.int v1_234), .val (.ref b235), .val (.ref b242), .val (.ref b246), .val (.int (if (0 : Int32) = (3 : Int32) then (1 : Int32) else 0)), .val (.int (0 : Int32)), .val (.int (if v1_251 = (3 : Int32) then (1 : Int32) else 0)), .val (.int (if v1_251 = (3 : Int32) then (1 : Int32) else 0))] [(.int (1 : Int32))]))
          exact Go.retVW X_262 e_262 hS0 (Nat.le_trans hk0 (Nat.le_trans le_235 (Nat.le_trans le_236 (Nat.le_trans le_238 (Nat.le_trans le_240 (Nat.le_trans le_242 (Nat.le_trans le_245 (Nat.le_trans le_246 (Nat.le_trans le_247 le_251))))))))) hZ hEL hh0 CR_251 hx hlk hret rfl (Or.inl ⟨rfl, Or.inr (Or.inl rfl), _, rfl⟩) (hb hby at_198) (by decide) (by decide) (by rw [e_262]; exact ⟨rfl, N_262⟩)
      · skip
        refine Go.step (fun _ k => XS.ifYes X_253.here hx rfl (pc0 := 141) (pc' := 162) rfl (hb hby at_141) rfl ((if0 _ _).trans (teq (b01_eq z1)).1) (by decide) (by decide) k) ?_
        show Go p e below _ (T_253.setTop (mkF m 162 #[.val (.int p0), .val (.int p1), .val (.int p2), .val (.int p3), .val (.int (3 : Int32)), .val (.int v1_232), .val (.int v1_233), .val (.int v1_234), .val (.ref b235), .val (.ref b242), .val (.ref b246), .val (.int (if (0 : Int32) = (3 : Int32) then (1 : Int32) else 0)), .unset, .unset, .unset] []))
        refine Go.step (fun _ k => XS.iconst X_253.here hx rfl (hb hby at_162) k) ?_
        show Go p e below _ (T_253.setTop (mkF m 163 #[.val (.int p0), .val (.int p1), .val (.int p2), .val (.int p3), .val (.int (3 : Int32)), .val (.int v1_232), .val (.int v1_233), .val (.int v1_234), .val (.ref b235), .val (.ref b242), .val (.ref b246), .val (.int (if (0 : Int32) = (3 : Int32) then (1 : Int32) else 0)), .unset, .unset, .unset] [(.int (0 : Int32))]))
        refine Go.step (fun _ k => XS.istore X_253.here hx rfl (hb hby at_163) rfl (l' := #[.val (.int p0), .val (.int p1), .val (.int p2), .val (.int p3), .val (.int (3 : Int32)), .val (.int v1_232), .val (.int v1_233), .val (.int v1_234), .val (.ref b235), .val (.ref b242), .val (.ref b246), .val (.int (if (0 : Int32) = (3 : Int32) then (1 : Int32) else 0)), .val (.int (0 : Int32)), .unset, .unset]) rfl k) ?_
        show Go p e below _ (T_253.setTop (mkF m 165 #[.val (.int p0), .val (.int p1), .val (.int p2), .val (.int p3), .val (.int (3 : Int32)), .val (.int v1_232), .val (.int v1_233), .val (.int v1_234), .val (.ref b235), .val (.ref b242), .val (.ref b246), .val (.int (if (0 : Int32) = (3 : Int32) then (1 : Int32) else 0)), .val (.int (0 : Int32)), .unset, .unset] []))
        refine Go.step (fun _ k => XS.aload X_253.here hx rfl (hb hby at_165) rfl rfl k) ?_
        show Go p e below _ (T_253.setTop (mkF m 167 #[.val (.int p0), .val (.int p1), .val (.int p2), .val (.int p3), .val (.int (3 : Int32)), .val (.int v1_232), .val (.int v1_233), .val (.int v1_234), .val (.ref b235), .val (.ref b242), .val (.ref b246), .val (.int (if (0 : Int32) = (3 : Int32) then (1 : Int32) else 0)), .val (.int (0 : Int32)), .unset, .unset] [(.ref b246)]))
        have f263 : Str Z (T_245.heap).size T_251.heap b242 ([v1_232, v1_233, v1_234] : List Int32) := (f248.keep K_251 (allS (Nat.le_trans (Nat.le_refl _) ge_246) all0))
        have f265 : Exa Z T_251.heap b246 "com/example/sigyn/sigyn/sip/SipScanner" := (f250.keep K_251)
        obtain ⟨v_264, T_264, L_264, X_264, hQ_264, st_264⟩ := goV X_253 hx hZ (y := ({ cls := "com/example/sigyn/sigyn/sip/SipScanner", name := "atEnd", desc := "()Z" } : Jvm.MethodName)) (z := ({ cls := "com/example/sigyn/sigyn/sip/SipScanner", name := "atEnd", desc := "()Z" } : Jvm.MethodName)) hown (wd_35 hw) (wd_36 hw) (notFace_of_selects (args := #[]) (mvT hZ (wd_38 hw))) (wd_38 hw) (wd_37 hw) (by decide) (backOf (W := 0) (rm_atEnd l Z a0 hw zc vfm (b246) (v1_251) (b242) (([v1_232, v1_233, v1_234] : List Int32)) ((3 : Int32)) T_251.heap n0 (Nat.le_trans Z0 KP_251.1) u0_251 u1_251 (f263.mono (Nat.le_trans le_246 (Nat.le_trans le_247 le_251))) rfl hSt O_251) hZ (wd_39 hw) (wd_28 hw) (by decide) (by decide)) e_253 f265 (g := (mkF m 167 #[.val (.int p0), .val (.int p1), .val (.int p2), .val (.int p3), .val (.int (3 : Int32)), .val (.int v1_232), .val (.int v1_233), .val (.int v1_234), .val (.ref b235), .val (.ref b242), .val (.ref b246), .val (.int (if (0 : Int32) = (3 : Int32) then (1 : Int32) else 0)), .val (.int (0 : Int32)), .unset, .unset] [(.ref b246)])) rfl (by rw [hml]; rfl) (argsL := []) (rest := []) rfl (lenOf pd_6 rfl) rfl (by show 2 * 0 + _ ≤ _; exact Nat.le_of_eq rfl) (hb hby at_167) (by decide) (by decide)
        obtain ⟨rfl, Nq_264, e_264⟩ := hQ_264
        have N_264 := Fr.app N_253 Nq_264
        refine Go.step st_264 ?_
        show Go p e below _ (T_264.setTop (mkF m 170 #[.val (.int p0), .val (.int p1), .val (.int p2), .val (.int p3), .val (.int (3 : Int32)), .val (.int v1_232), .val (.int v1_233), .val (.int v1_234), .val (.ref b235), .val (.ref b242), .val (.ref b246), .val (.int (if (0 : Int32) = (3 : Int32) then (1 : Int32) else 0)), .val (.int (0 : Int32)), .unset, .unset] [(.int (if v1_251 = (3 : Int32) then (1 : Int32) else 0))]))
        refine Go.step (fun _ k => XS.istore X_264.here hx rfl (hb hby at_170) rfl (l' := #[.val (.int p0), .val (.int p1), .val (.int p2), .val (.int p3), .val (.int (3 : Int32)), .val (.int v1_232), .val (.int v1_233), .val (.int v1_234), .val (.ref b235), .val (.ref b242), .val (.ref b246), .val (.int (if (0 : Int32) = (3 : Int32) then (1 : Int32) else 0)), .val (.int (0 : Int32)), .val (.int (if v1_251 = (3 : Int32) then (1 : Int32) else 0)), .unset]) rfl k) ?_
        show Go p e below _ (T_264.setTop (mkF m 172 #[.val (.int p0), .val (.int p1), .val (.int p2), .val (.int p3), .val (.int (3 : Int32)), .val (.int v1_232), .val (.int v1_233), .val (.int v1_234), .val (.ref b235), .val (.ref b242), .val (.ref b246), .val (.int (if (0 : Int32) = (3 : Int32) then (1 : Int32) else 0)), .val (.int (0 : Int32)), .val (.int (if v1_251 = (3 : Int32) then (1 : Int32) else 0)), .unset] []))
        refine Go.step (fun _ k => XS.aload X_264.here hx rfl (hb hby at_172) rfl rfl k) ?_
        show Go p e below _ (T_264.setTop (mkF m 174 #[.val (.int p0), .val (.int p1), .val (.int p2), .val (.int p3), .val (.int (3 : Int32)), .val (.int v1_232), .val (.int v1_233), .val (.int v1_234), .val (.ref b235), .val (.ref b242), .val (.ref b246), .val (.int (if (0 : Int32) = (3 : Int32) then (1 : Int32) else 0)), .val (.int (0 : Int32)), .val (.int (if v1_251 = (3 : Int32) then (1 : Int32) else 0)), .unset] [(.ref b246)]))
        obtain ⟨v_266, T_266, L_266, X_266, hQ_266, st_266⟩ := goV X_264 hx hZ (y := ({ cls := "com/example/sigyn/sigyn/sip/SipScanner", name := "atEnd", desc := "()Z" } : Jvm.MethodName)) (z := ({ cls := "com/example/sigyn/sigyn/sip/SipScanner", name := "atEnd", desc := "()Z" } : Jvm.MethodName)) hown (wd_35 hw) (wd_36 hw) (notFace_of_selects (args := #[]) (mvT hZ (wd_38 hw))) (wd_38 hw) (wd_37 hw) (by decide) (backOf (W := 0) (rm_atEnd l Z a0 hw zc vfm (b246) (v1_251) (b242) (([v1_232, v1_233, v1_234] : List Int32)) ((3 : Int32)) T_251.heap n0 (Nat.le_trans Z0 KP_251.1) u0_251 u1_251 (f263.mono (Nat.le_trans le_246 (Nat.le_trans le_247 le_251))) rfl hSt O_251) hZ (wd_39 hw) (wd_28 hw) (by decide) (by decide)) e_264 f265 (g := (mkF m 174 #[.val (.int p0), .val (.int p1), .val (.int p2), .val (.int p3), .val (.int (3 : Int32)), .val (.int v1_232), .val (.int v1_233), .val (.int v1_234), .val (.ref b235), .val (.ref b242), .val (.ref b246), .val (.int (if (0 : Int32) = (3 : Int32) then (1 : Int32) else 0)), .val (.int (0 : Int32)), .val (.int (if v1_251 = (3 : Int32) then (1 : Int32) else 0)), .unset] [(.ref b246)])) rfl (by rw [hml]; rfl) (argsL := []) (rest := []) rfl (lenOf pd_6 rfl) rfl (by show 2 * 0 + _ ≤ _; exact Nat.le_of_eq rfl) (hb hby at_174) (by decide) (by decide)
        obtain ⟨rfl, Nq_266, e_266⟩ := hQ_266
        have N_266 := Fr.app N_264 Nq_266
        refine Go.step st_266 ?_
        show Go p e below _ (T_266.setTop (mkF m 177 #[.val (.int p0), .val (.int p1), .val (.int p2), .val (.int p3), .val (.int (3 : Int32)), .val (.int v1_232), .val (.int v1_233), .val (.int v1_234), .val (.ref b235), .val (.ref b242), .val (.ref b246), .val (.int (if (0 : Int32) = (3 : Int32) then (1 : Int32) else 0)), .val (.int (0 : Int32)), .val (.int (if v1_251 = (3 : Int32) then (1 : Int32) else 0)), .unset] [(.int (if v1_251 = (3 : Int32) then (1 : Int32) else 0))]))
        refine Go.step (fun _ k => XS.istore X_266.here hx rfl (hb hby at_177) rfl (l' := #[.val (.int p0), .val (.int p1), .val (.int p2), .val (.int p3), .val (.int (3 : Int32)), .val (.int v1_232), .val (.int v1_233), .val (.int v1_234), .val (.ref b235), .val (.ref b242), .val (.ref b246), .val (.int (if (0 : Int32) = (3 : Int32) then (1 : Int32) else 0)), .val (.int (0 : Int32)), .val (.int (if v1_251 = (3 : Int32) then (1 : Int32) else 0)), .val (.int (if v1_251 = (3 : Int32) then (1 : Int32) else 0))]) rfl k) ?_
        show Go p e below _ (T_266.setTop (mkF m 179 #[.val (.int p0), .val (.int p1), .val (.int p2), .val (.int p3), .val (.int (3 : Int32)), .val (.int v1_232), .val (.int v1_233), .val (.int v1_234), .val (.ref b235), .val (.ref b242), .val (.ref b246), .val (.int (if (0 : Int32) = (3 : Int32) then (1 : Int32) else 0)), .val (.int (0 : Int32)), .val (.int (if v1_251 = (3 : Int32) then (1 : Int32) else 0)), .val (.int (if v1_251 = (3 : Int32) then (1 : Int32) else 0))] []))
        refine Go.step (fun _ k => XS.iload X_266.here hx rfl (hb hby at_179) rfl  k) ?_
        show Go p e below _ (T_266.setTop (mkF m 181 #[.val (.int p0), .val (.int p1), .val (.int p2), .val (.int p3), .val (.int (3 : Int32)), .val (.int v1_232), .val (.int v1_233), .val (.int v1_234), .val (.ref b235), .val (.ref b242), .val (.ref b246), .val (.int (if (0 : Int32) = (3 : Int32) then (1 : Int32) else 0)), .val (.int (0 : Int32)), .val (.int (if v1_251 = (3 : Int32) then (1 : Int32) else 0)), .val (.int (if v1_251 = (3 : Int32) then (1 : Int32) else 0))] [(.int (if v1_251 = (3 : Int32) then (1 : Int32) else 0))]))
        refine Go.step (fun _ k => XS.iload X_266.here hx rfl (hb hby at_181) rfl  k) ?_
        show Go p e below _ (T_266.setTop (mkF m 183 #[.val (.int p0), .val (.int p1), .val (.int p2), .val (.int p3), .val (.int (3 : Int32)), .val (.int v1_232), .val (.int v1_233), .val (.int v1_234), .val (.ref b235), .val (.ref b242), .val (.ref b246), .val (.int (if (0 : Int32) = (3 : Int32) then (1 : Int32) else 0)), .val (.int (0 : Int32)), .val (.int (if v1_251 = (3 : Int32) then (1 : Int32) else 0)), .val (.int (if v1_251 = (3 : Int32) then (1 : Int32) else 0))] [(.int (0 : Int32)), (.int (if v1_251 = (3 : Int32) then (1 : Int32) else 0))]))
        refine Go.step (fun _ k => XS.icmpNo X_266.here hx rfl (hb hby at_183) rfl (teq ((if_neg (fun q => absurd (hv.mp q).2.1 z1)) : (if v1_251 = (3 : Int32) then (1 : Int32) else 0) = (0 : Int32))).2 k) ?_
        show Go p e below _ (T_266.setTop (mkF m 186 #[.val (.int p0), .val (.int p1), .val (.int p2), .val (.int p3), .val (.int (3 : Int32)), .val (.int v1_232), .val (.int v1_233), .val (.int v1_234), .val (.ref b235), .val (.ref b242), .val (.ref b246), .val (.int (if (0 : Int32) = (3 : Int32) then (1 : Int32) else 0)), .val (.int (0 : Int32)), .val (.int (if v1_251 = (3 : Int32) then (1 : Int32) else 0)), .val (.int (if v1_251 = (3 : Int32) then (1 : Int32) else 0))] []))
        refine Go.step (fun _ k => XS.iload X_266.here hx rfl (hb hby at_186) rfl  k) ?_
        show Go p e below _ (T_266.setTop (mkF m 188 #[.val (.int p0), .val (.int p1), .val (.int p2), .val (.int p3), .val (.int (3 : Int32)), .val (.int v1_232), .val (.int v1_233), .val (.int v1_234), .val (.ref b235), .val (.ref b242), .val (.ref b246), .val (.int (if (0 : Int32) = (3 : Int32) then (1 : Int32) else 0)), .val (.int (0 : Int32)), .val (.int (if v1_251 = (3 : Int32) then (1 : Int32) else 0)), .val (.int (if v1_251 = (3 : Int32) then (1 : Int32) else 0))] [(.int (if v1_251 = (3 : Int32) then (1 : Int32) else 0))]))
        refine Go.step (fun _ k => XS.iload X_266.here hx rfl (hb hby at_188) rfl  k) ?_
        show Go p e below _ (T_266.setTop (mkF m 190 #[.val (.int p0), .val (.int p1), .val (.int p2), .val (.int p3), .val (.int (3 : Int32)), .val (.int v1_232), .val (.int v1_233), .val (.int v1_234), .val (.ref b235), .val (.ref b242), .val (.ref b246), .val (.int (if (0 : Int32) = (3 : Int32) then (1 : Int32) else 0)), .val (.int (0 : Int32)), .val (.int (if v1_251 = (3 : Int32) then (1 : Int32) else 0)), .val (.int (if v1_251 = (3 : Int32) then (1 : Int32) else 0))] [(.int (if v1_251 = (3 : Int32) then (1 : Int32) else 0)), (.int (if v1_251 = (3 : Int32) then (1 : Int32) else 0))]))
        refine Go.step (fun _ k => XS.icmpNo X_266.here hx rfl (hb hby at_190) rfl (teq (rfl : (if v1_251 = (3 : Int32) then (1 : Int32) else 0) = (if v1_251 = (3 : Int32) then (1 : Int32) else 0))).2 k) ?_
        show Go p e below _ (T_266.setTop (mkF m 193 #[.val (.int p0), .val (.int p1), .val (.int p2), .val (.int p3), .val (.int (3 : Int32)), .val (.int v1_232), .val (.int v1_233), .val (.int v1_234), .val (.ref b235), .val (.ref b242), .val (.ref b246), .val (.int (if (0 : Int32) = (3 : Int32) then (1 : Int32) else 0)), .val (.int (0 : Int32)), .val (.int (if v1_251 = (3 : Int32) then (1 : Int32) else 0)), .val (.int (if v1_251 = (3 : Int32) then (1 : Int32) else 0))] []))
        refine Go.step (fun _ k => XS.iconst X_266.here hx rfl (hb hby at_193) k) ?_
        show Go p e below _ (T_266.setTop (mkF m 194 #[.val (.int p0), .val (.int p1), .val (.int p2), .val (.int p3), .val (.int (3 : Int32)), .val (.int v1_232), .val (.int v1_233), .val (.int v1_234), .val (.ref b235), .val (.ref b242), .val (.ref b246), .val (.int (if (0 : Int32) = (3 : Int32) then (1 : Int32) else 0)), .val (.int (0 : Int32)), .val (.int (if v1_251 = (3 : Int32) then (1 : Int32) else 0)), .val (.int (if v1_251 = (3 : Int32) then (1 : Int32) else 0))] [(.int (1 : Int32))]))
        refine Go.step (fun _ k => XS.goto X_266.here hx rfl (pc0 := 194) (pc' := 198) rfl (hb hby at_194) (by decide) (by decide) k) ?_
        show Go p e below _ (T_266.setTop (mkF m 198 #[.val (.int p0), .val (.int p1), .val (.int p2), .val (.int p3), .val (.int (3 : Int32)), .val (.int v1_232), .val (.int v1_233), .val (.int v1_234), .val (.ref b235), .val (.ref b242), .val (.ref b246), .val (.int (if (0 : Int32) = (3 : Int32) then (1 : Int32) else 0)), .val (.int (0 : Int32)), .val (.int (if v1_251 = (3 : Int32) then (1 : Int32) else 0)), .val (.int (if v1_251 = (3 : Int32) then (1 : Int32) else 0))] [(.int (1 : Int32))]))
        exact Go.retVW X_266 e_266 hS0 (Nat.le_trans hk0 (Nat.le_trans le_235 (Nat.le_trans le_236 (Nat.le_trans le_238 (Nat.le_trans le_240 (Nat.le_trans le_242 (Nat.le_trans le_245 (Nat.le_trans le_246 (Nat.le_trans le_247 le_251))))))))) hZ hEL hh0 CR_251 hx hlk hret rfl (Or.inl ⟨rfl, Or.inr (Or.inl rfl), _, rfl⟩) (hb hby at_198) (by decide) (by decide) (by rw [e_266]; exact ⟨rfl, N_266⟩)
    · skip
      refine Go.step (fun _ k => XS.ifYes X_252.here hx rfl (pc0 := 127) (pc' := 162) rfl (hb hby at_127) rfl ((if0 _ _).trans (teq (b01_eq z0)).1) (by decide) (by decide) k) ?_
      show Go p e below _ (T_252.setTop (mkF m 162 #[.val (.int p0), .val (.int p1), .val (.int p2), .val (.int p3), .val (.int (3 : Int32)), .val (.int v1_232), .val (.int v1_233), .val (.int v1_234), .val (.ref b235), .val (.ref b242), .val (.ref b246), .val (.int (if (0 : Int32) = (3 : Int32) then (1 : Int32) else 0)), .unset, .unset, .unset] []))
      refine Go.step (fun _ k => XS.iconst X_252.here hx rfl (hb hby at_162) k) ?_
      show Go p e below _ (T_252.setTop (mkF m 163 #[.val (.int p0), .val (.int p1), .val (.int p2), .val (.int p3), .val (.int (3 : Int32)), .val (.int v1_232), .val (.int v1_233), .val (.int v1_234), .val (.ref b235), .val (.ref b242), .val (.ref b246), .val (.int (if (0 : Int32) = (3 : Int32) then (1 : Int32) else 0)), .unset, .unset, .unset] [(.int (0 : Int32))]))
      refine Go.step (fun _ k => XS.istore X_252.here hx rfl (hb hby at_163) rfl (l' := #[.val (.int p0), .val (.int p1), .val (.int p2), .val (.int p3), .val (.int (3 : Int32)), .val (.int v1_232), .val (.int v1_233), .val (.int v1_234), .val (.ref b235), .val (.ref b242), .val (.ref b246), .val (.int (if (0 : Int32) = (3 : Int32) then (1 : Int32) else 0)), .val (.int (0 : Int32)), .unset, .unset]) rfl k) ?_
      show Go p e below _ (T_252.setTop (mkF m 165 #[.val (.int p0), .val (.int p1), .val (.int p2), .val (.int p3), .val (.int (3 : Int32)), .val (.int v1_232), .val (.int v1_233), .val (.int v1_234), .val (.ref b235), .val (.ref b242), .val (.ref b246), .val (.int (if (0 : Int32) = (3 : Int32) then (1 : Int32) else 0)), .val (.int (0 : Int32)), .unset, .unset] []))
      refine Go.step (fun _ k => XS.aload X_252.here hx rfl (hb hby at_165) rfl rfl k) ?_
      show Go p e below _ (T_252.setTop (mkF m 167 #[.val (.int p0), .val (.int p1), .val (.int p2), .val (.int p3), .val (.int (3 : Int32)), .val (.int v1_232), .val (.int v1_233), .val (.int v1_234), .val (.ref b235), .val (.ref b242), .val (.ref b246), .val (.int (if (0 : Int32) = (3 : Int32) then (1 : Int32) else 0)), .val (.int (0 : Int32)), .unset, .unset] [(.ref b246)]))
      have f267 : Str Z (T_245.heap).size T_251.heap b242 ([v1_232, v1_233, v1_234] : List Int32) := (f248.keep K_251 (allS (Nat.le_trans (Nat.le_refl _) ge_246) all0))
      have f269 : Exa Z T_251.heap b246 "com/example/sigyn/sigyn/sip/SipScanner" := (f250.keep K_251)
      obtain ⟨v_268, T_268, L_268, X_268, hQ_268, st_268⟩ := goV X_252 hx hZ (y := ({ cls := "com/example/sigyn/sigyn/sip/SipScanner", name := "atEnd", desc := "()Z" } : Jvm.MethodName)) (z := ({ cls := "com/example/sigyn/sigyn/sip/SipScanner", name := "atEnd", desc := "()Z" } : Jvm.MethodName)) hown (wd_35 hw) (wd_36 hw) (notFace_of_selects (args := #[]) (mvT hZ (wd_38 hw))) (wd_38 hw) (wd_37 hw) (by decide) (backOf (W := 0) (rm_atEnd l Z a0 hw zc vfm (b246) (v1_251) (b242) (([v1_232, v1_233, v1_234] : List Int32)) ((3 : Int32)) T_251.heap n0 (Nat.le_trans Z0 KP_251.1) u0_251 u1_251 (f267.mono (Nat.le_trans le_246 (Nat.le_trans le_247 le_251))) rfl hSt O_251) hZ (wd_39 hw) (wd_28 hw) (by decide) (by decide)) e_252 f269 (g := (mkF m 167 #[.val (.int p0), .val (.int p1), .val (.int p2), .val (.int p3), .val (.int (3 : Int32)), .val (.int v1_232), .val (.int v1_233), .val (.int v1_234), .val (.ref b235), .val (.ref b242), .val (.ref b246), .val (.int (if (0 : Int32) = (3 : Int32) then (1 : Int32) else 0)), .val (.int (0 : Int32)), .unset, .unset] [(.ref b246)])) rfl (by rw [hml]; rfl) (argsL := []) (rest := []) rfl (lenOf pd_6 rfl) rfl (by show 2 * 0 + _ ≤ _; exact Nat.le_of_eq rfl) (hb hby at_167) (by decide) (by decide)
      obtain ⟨rfl, Nq_268, e_268⟩ := hQ_268
      have N_268 := Fr.app N_252 Nq_268
      refine Go.step st_268 ?_
      show Go p e below _ (T_268.setTop (mkF m 170 #[.val (.int p0), .val (.int p1), .val (.int p2), .val (.int p3), .val (.int (3 : Int32)), .val (.int v1_232), .val (.int v1_233), .val (.int v1_234), .val (.ref b235), .val (.ref b242), .val (.ref b246), .val (.int (if (0 : Int32) = (3 : Int32) then (1 : Int32) else 0)), .val (.int (0 : Int32)), .unset, .unset] [(.int (if v1_251 = (3 : Int32) then (1 : Int32) else 0))]))
      refine Go.step (fun _ k => XS.istore X_268.here hx rfl (hb hby at_170) rfl (l' := #[.val (.int p0), .val (.int p1), .val (.int p2), .val (.int p3), .val (.int (3 : Int32)), .val (.int v1_232), .val (.int v1_233), .val (.int v1_234), .val (.ref b235), .val (.ref b242), .val (.ref b246), .val (.int (if (0 : Int32) = (3 : Int32) then (1 : Int32) else 0)), .val (.int (0 : Int32)), .val (.int (if v1_251 = (3 : Int32) then (1 : Int32) else 0)), .unset]) rfl k) ?_
      show Go p e below _ (T_268.setTop (mkF m 172 #[.val (.int p0), .val (.int p1), .val (.int p2), .val (.int p3), .val (.int (3 : Int32)), .val (.int v1_232), .val (.int v1_233), .val (.int v1_234), .val (.ref b235), .val (.ref b242), .val (.ref b246), .val (.int (if (0 : Int32) = (3 : Int32) then (1 : Int32) else 0)), .val (.int (0 : Int32)), .val (.int (if v1_251 = (3 : Int32) then (1 : Int32) else 0)), .unset] []))
      refine Go.step (fun _ k => XS.aload X_268.here hx rfl (hb hby at_172) rfl rfl k) ?_
      show Go p e below _ (T_268.setTop (mkF m 174 #[.val (.int p0), .val (.int p1), .val (.int p2), .val (.int p3), .val (.int (3 : Int32)), .val (.int v1_232), .val (.int v1_233), .val (.int v1_234), .val (.ref b235), .val (.ref b242), .val (.ref b246), .val (.int (if (0 : Int32) = (3 : Int32) then (1 : Int32) else 0)), .val (.int (0 : Int32)), .val (.int (if v1_251 = (3 : Int32) then (1 : Int32) else 0)), .unset] [(.ref b246)]))
      obtain ⟨v_270, T_270, L_270, X_270, hQ_270, st_270⟩ := goV X_268 hx hZ (y := ({ cls := "com/example/sigyn/sigyn/sip/SipScanner", name := "atEnd", desc := "()Z" } : Jvm.MethodName)) (z := ({ cls := "com/example/sigyn/sigyn/sip/SipScanner", name := "atEnd", desc := "()Z" } : Jvm.MethodName)) hown (wd_35 hw) (wd_36 hw) (notFace_of_selects (args := #[]) (mvT hZ (wd_38 hw))) (wd_38 hw) (wd_37 hw) (by decide) (backOf (W := 0) (rm_atEnd l Z a0 hw zc vfm (b246) (v1_251) (b242) (([v1_232, v1_233, v1_234] : List Int32)) ((3 : Int32)) T_251.heap n0 (Nat.le_trans Z0 KP_251.1) u0_251 u1_251 (f267.mono (Nat.le_trans le_246 (Nat.le_trans le_247 le_251))) rfl hSt O_251) hZ (wd_39 hw) (wd_28 hw) (by decide) (by decide)) e_268 f269 (g := (mkF m 174 #[.val (.int p0), .val (.int p1), .val (.int p2), .val (.int p3), .val (.int (3 : Int32)), .val (.int v1_232), .val (.int v1_233), .val (.int v1_234), .val (.ref b235), .val (.ref b242), .val (.ref b246), .val (.int (if (0 : Int32) = (3 : Int32) then (1 : Int32) else 0)), .val (.int (0 : Int32)), .val (.int (if v1_251 = (3 : Int32) then (1 : Int32) else 0)), .unset] [(.ref b246)])) rfl (by rw [hml]; rfl) (argsL := []) (rest := []) rfl (lenOf pd_6 rfl) rfl (by show 2 * 0 + _ ≤ _; exact Nat.le_of_eq rfl) (hb hby at_174) (by decide) (by decide)
      obtain ⟨rfl, Nq_270, e_270⟩ := hQ_270
      have N_270 := Fr.app N_268 Nq_270
      refine Go.step st_270 ?_
      show Go p e below _ (T_270.setTop (mkF m 177 #[.val (.int p0), .val (.int p1), .val (.int p2), .val (.int p3), .val (.int (3 : Int32)), .val (.int v1_232), .val (.int v1_233), .val (.int v1_234), .val (.ref b235), .val (.ref b242), .val (.ref b246), .val (.int (if (0 : Int32) = (3 : Int32) then (1 : Int32) else 0)), .val (.int (0 : Int32)), .val (.int (if v1_251 = (3 : Int32) then (1 : Int32) else 0)), .unset] [(.int (if v1_251 = (3 : Int32) then (1 : Int32) else 0))]))
      refine Go.step (fun _ k => XS.istore X_270.here hx rfl (hb hby at_177) rfl (l' := #[.val (.int p0), .val (.int p1), .val (.int p2), .val (.int p3), .val (.int (3 : Int32)), .val (.int v1_232), .val (.int v1_233), .val (.int v1_234), .val (.ref b235), .val (.ref b242), .val (.ref b246), .val (.int (if (0 : Int32) = (3 : Int32) then (1 : Int32) else 0)), .val (.int (0 : Int32)), .val (.int (if v1_251 = (3 : Int32) then (1 : Int32) else 0)), .val (.int (if v1_251 = (3 : Int32) then (1 : Int32) else 0))]) rfl k) ?_
      show Go p e below _ (T_270.setTop (mkF m 179 #[.val (.int p0), .val (.int p1), .val (.int p2), .val (.int p3), .val (.int (3 : Int32)), .val (.int v1_232), .val (.int v1_233), .val (.int v1_234), .val (.ref b235), .val (.ref b242), .val (.ref b246), .val (.int (if (0 : Int32) = (3 : Int32) then (1 : Int32) else 0)), .val (.int (0 : Int32)), .val (.int (if v1_251 = (3 : Int32) then (1 : Int32) else 0)), .val (.int (if v1_251 = (3 : Int32) then (1 : Int32) else 0))] []))
      refine Go.step (fun _ k => XS.iload X_270.here hx rfl (hb hby at_179) rfl  k) ?_
      show Go p e below _ (T_270.setTop (mkF m 181 #[.val (.int p0), .val (.int p1), .val (.int p2), .val (.int p3), .val (.int (3 : Int32)), .val (.int v1_232), .val (.int v1_233), .val (.int v1_234), .val (.ref b235), .val (.ref b242), .val (.ref b246), .val (.int (if (0 : Int32) = (3 : Int32) then (1 : Int32) else 0)), .val (.int (0 : Int32)), .val (.int (if v1_251 = (3 : Int32) then (1 : Int32) else 0)), .val (.int (if v1_251 = (3 : Int32) then (1 : Int32) else 0))] [(.int (if v1_251 = (3 : Int32) then (1 : Int32) else 0))]))
      refine Go.step (fun _ k => XS.iload X_270.here hx rfl (hb hby at_181) rfl  k) ?_
      show Go p e below _ (T_270.setTop (mkF m 183 #[.val (.int p0), .val (.int p1), .val (.int p2), .val (.int p3), .val (.int (3 : Int32)), .val (.int v1_232), .val (.int v1_233), .val (.int v1_234), .val (.ref b235), .val (.ref b242), .val (.ref b246), .val (.int (if (0 : Int32) = (3 : Int32) then (1 : Int32) else 0)), .val (.int (0 : Int32)), .val (.int (if v1_251 = (3 : Int32) then (1 : Int32) else 0)), .val (.int (if v1_251 = (3 : Int32) then (1 : Int32) else 0))] [(.int (0 : Int32)), (.int (if v1_251 = (3 : Int32) then (1 : Int32) else 0))]))
      refine Go.step (fun _ k => XS.icmpNo X_270.here hx rfl (hb hby at_183) rfl (teq ((if_neg (fun q => absurd (hv.mp q).1 z0)) : (if v1_251 = (3 : Int32) then (1 : Int32) else 0) = (0 : Int32))).2 k) ?_
      show Go p e below _ (T_270.setTop (mkF m 186 #[.val (.int p0), .val (.int p1), .val (.int p2), .val (.int p3), .val (.int (3 : Int32)), .val (.int v1_232), .val (.int v1_233), .val (.int v1_234), .val (.ref b235), .val (.ref b242), .val (.ref b246), .val (.int (if (0 : Int32) = (3 : Int32) then (1 : Int32) else 0)), .val (.int (0 : Int32)), .val (.int (if v1_251 = (3 : Int32) then (1 : Int32) else 0)), .val (.int (if v1_251 = (3 : Int32) then (1 : Int32) else 0))] []))
      refine Go.step (fun _ k => XS.iload X_270.here hx rfl (hb hby at_186) rfl  k) ?_
      show Go p e below _ (T_270.setTop (mkF m 188 #[.val (.int p0), .val (.int p1), .val (.int p2), .val (.int p3), .val (.int (3 : Int32)), .val (.int v1_232), .val (.int v1_233), .val (.int v1_234), .val (.ref b235), .val (.ref b242), .val (.ref b246), .val (.int (if (0 : Int32) = (3 : Int32) then (1 : Int32) else 0)), .val (.int (0 : Int32)), .val (.int (if v1_251 = (3 : Int32) then (1 : Int32) else 0)), .val (.int (if v1_251 = (3 : Int32) then (1 : Int32) else 0))] [(.int (if v1_251 = (3 : Int32) then (1 : Int32) else 0))]))
      refine Go.step (fun _ k => XS.iload X_270.here hx rfl (hb hby at_188) rfl  k) ?_
      show Go p e below _ (T_270.setTop (mkF m 190 #[.val (.int p0), .val (.int p1), .val (.int p2), .val (.int p3), .val (.int (3 : Int32)), .val (.int v1_232), .val (.int v1_233), .val (.int v1_234), .val (.ref b235), .val (.ref b242), .val (.ref b246), .val (.int (if (0 : Int32) = (3 : Int32) then (1 : Int32) else 0)), .val (.int (0 : Int32)), .val (.int (if v1_251 = (3 : Int32) then (1 : Int32) else 0)), .val (.int (if v1_251 = (3 : Int32) then (1 : Int32) else 0))] [(.int (if v1_251 = (3 : Int32) then (1 : Int32) else 0)), (.int (if v1_251 = (3 : Int32) then (1 : Int32) else 0))]))
      refine Go.step (fun _ k => XS.icmpNo X_270.here hx rfl (hb hby at_190) rfl (teq (rfl : (if v1_251 = (3 : Int32) then (1 : Int32) else 0) = (if v1_251 = (3 : Int32) then (1 : Int32) else 0))).2 k) ?_
      show Go p e below _ (T_270.setTop (mkF m 193 #[.val (.int p0), .val (.int p1), .val (.int p2), .val (.int p3), .val (.int (3 : Int32)), .val (.int v1_232), .val (.int v1_233), .val (.int v1_234), .val (.ref b235), .val (.ref b242), .val (.ref b246), .val (.int (if (0 : Int32) = (3 : Int32) then (1 : Int32) else 0)), .val (.int (0 : Int32)), .val (.int (if v1_251 = (3 : Int32) then (1 : Int32) else 0)), .val (.int (if v1_251 = (3 : Int32) then (1 : Int32) else 0))] []))
      refine Go.step (fun _ k => XS.iconst X_270.here hx rfl (hb hby at_193) k) ?_
      show Go p e below _ (T_270.setTop (mkF m 194 #[.val (.int p0), .val (.int p1), .val (.int p2), .val (.int p3), .val (.int (3 : Int32)), .val (.int v1_232), .val (.int v1_233), .val (.int v1_234), .val (.ref b235), .val (.ref b242), .val (.ref b246), .val (.int (if (0 : Int32) = (3 : Int32) then (1 : Int32) else 0)), .val (.int (0 : Int32)), .val (.int (if v1_251 = (3 : Int32) then (1 : Int32) else 0)), .val (.int (if v1_251 = (3 : Int32) then (1 : Int32) else 0))] [(.int (1 : Int32))]))
      refine Go.step (fun _ k => XS.goto X_270.here hx rfl (pc0 := 194) (pc' := 198) rfl (hb hby at_194) (by decide) (by decide) k) ?_
      show Go p e below _ (T_270.setTop (mkF m 198 #[.val (.int p0), .val (.int p1), .val (.int p2), .val (.int p3), .val (.int (3 : Int32)), .val (.int v1_232), .val (.int v1_233), .val (.int v1_234), .val (.ref b235), .val (.ref b242), .val (.ref b246), .val (.int (if (0 : Int32) = (3 : Int32) then (1 : Int32) else 0)), .val (.int (0 : Int32)), .val (.int (if v1_251 = (3 : Int32) then (1 : Int32) else 0)), .val (.int (if v1_251 = (3 : Int32) then (1 : Int32) else 0))] [(.int (1 : Int32))]))
      exact Go.retVW X_270 e_270 hS0 (Nat.le_trans hk0 (Nat.le_trans le_235 (Nat.le_trans le_236 (Nat.le_trans le_238 (Nat.le_trans le_240 (Nat.le_trans le_242 (Nat.le_trans le_245 (Nat.le_trans le_246 (Nat.le_trans le_247 le_251))))))))) hZ hEL hh0 CR_251 hx hlk hret rfl (Or.inl ⟨rfl, Or.inr (Or.inl rfl), _, rfl⟩) (hb hby at_198) (by decide) (by decide) (by rw [e_270]; exact ⟨rfl, N_270⟩)
--@E
set_option maxRecDepth 65536 in
set_option maxHeartbeats 40000000 in
theorem comes_1 {Post : Tables → Env → Array Value → State → Outcome → State → Prop} (hpost : ∀ tb e args s v u, (limb_1_1.after args s (.returned v) u = true ∧ limb_1_2.after args s (.returned v) u = true ∧ True) → ReturnedEndW s (.returned v) u (Jvm.fieldLocs frame_1_writes args s ++ Jvm.arrayLocs frame_1_arrays args s ++ Jvm.staticLocs frame_1_statics s) 24 1152 → Post tb e args s (.returned v) u) :
    ArmFor flags0 classFile x code maxLocals ret World_1 tables_1 room_1 Calls_1 rest_1 Pre_1 Post := by
  intro l hfl _ _ p e ha hc hk s m args below hf hA hF happ hP
  obtain ⟨hcalls, hrest, hpre⟩ := hP
  obtain ⟨-, -, -, hnamed, -, -, -, hat⟩ := (Spec.applies_iff hf).mp happ
  obtain ⟨hg, hn⟩ := and_e (Cond.before_iff.mp (show (Jvm.Cond.and given_1 narrow_1).before args s = true from hpre))
  obtain ⟨g_c, g_0⟩ := and_e hg
  obtain ⟨ga_0, g_1⟩ := and_e g_0
  obtain ⟨ga_1, g_2⟩ := and_e g_1
  obtain ⟨ga_2, g_3⟩ := and_e g_2
  have ga_3 := g_3
  obtain ⟨w0, w1, w2, w3, rfl⟩ : ∃ w0 w1 w2 w3 : Value, args = #[w0, w1, w2, w3] := by
    have hs : args.size = 4 := by simpa [Cond.value, given_1] using g_c
    obtain ⟨L⟩ := args
    match L, hs with
    | [w0, w1, w2, w3], _ => exact ⟨w0, w1, w2, w3, rfl⟩
  have hw := fun d (hd : d ∈ tables_1) => atoms_spec (ws := Jvm.Cond.code x code maxLocals ret :: tables_1) hat d (List.mem_cons_of_mem _ hd)
  obtain ⟨hsets, hown0⟩ := atoms_of _ (rest_1_c_eq ▸ (show rest_1_c.before _ s = true from hrest))
  obtain ⟨i0, ei0⟩ := is_v ga_0
  obtain rfl : w0 = (.int i0) := Option.some.inj ei0
  obtain ⟨i1, ei1⟩ := is_v ga_1
  obtain rfl : w1 = (.int i1) := Option.some.inj ei1
  obtain ⟨i2, ei2⟩ := is_v ga_2
  obtain rfl : w2 = (.int i2) := Option.some.inj ei2
  obtain ⟨i3, ei3⟩ := is_v ga_3
  obtain rfl : w3 = (.int i3) := Option.some.inj ei3
  have hs := fun (k : Nat) (d : Jvm.Cond) (h : jdkStatics_1[k]? = some d) => Cond.before_iff.mp (hsets d (List.mem_of_getElem? h))
  obtain ⟨zc, ezc⟩ := is_v (hs 1 _ rfl)
  have S_cs : Sta s s.heap "java/lang/String" "COMPACT_STRINGS" "Z" (.int zc) := Sta.start ezc (Or.inl (hsets _ (List.mem_of_getElem? (i := 0) rfl)))
  have n_cs : ¬ (zc = (0 : Int32)) := gotF (Cond.eq_ints ezc (Term.int_eval (0))) (not_v (hs 2 _ rfl))
  obtain ⟨vfm, e_fm, r_fm⟩ := isR_v (hs 8 _ rfl)
  have S_fm : Sta s s.heap "jdk/internal/util/Preconditions" "SIOOBE_FORMATTER" "Ljava/util/function/BiFunction;" vfm := Sta.start e_fm (Or.inl (hsets _ (List.mem_of_getElem? (i := 7) rfl)))
  have hSt : St s zc vfm := ⟨S_cs, n_cs, S_fm, r_fm⟩
  have hCV : CHv s EL s.vm s.heap := CHv.start (hEL_ hw) hcalls.1 (hsets _ (List.mem_of_getElem? (i := 2) rfl)) (wd_19 hw) (wd_6 hw)
  obtain ⟨n, o, h1, h2, h3, _, L, rfl, ⟨rfl, N⟩, -, hq⟩ := rm_law l s _ hw zc vfm i0 i1 i2 i3 s.heap s.heap.size (Nat.le_refl _) hSt (Old.start s) p e ha hc hk s m _ below hf ((Spec.applies_iff_loose hf).mp happ).1 ⟨rfl, State.Warmed39.refl s, rfl, hCV⟩ trivial
  refine ⟨n, _, h1, h2, h3, hpost _ _ _ _ _ _ ⟨Cond.after_iff.mpr rfl, Cond.after_iff.mpr (eq_i res_at (Term.int_eval (1)) rfl), trivial⟩ ⟨hq.1, hq.2.1, hq.2.2.1, (hq.2.2.2.sift fun y hy => Or.inr (N y hy)).mono (by decide) (by decide)⟩⟩
theorem main_1_1 : Claimed_1_1 := comes_1 fun _ _ _ _ _ _ h hF => ⟨h.1, hF⟩
theorem main_1_2 : Claimed_1_2 := comes_1 fun _ _ _ _ _ _ h hF => ⟨h.2.1, hF⟩
end Jvm.Pilot.@@N@@
namespace Jvm.Pilot.@@N@@
open Jvm Jvm.ClassFile Sem Op Lib Jvm.Free Jvm.Stand Jvm.Pilot.@@N@@.Jvm.D
/-! MADE BY PROGRAM (witnessworld.py) out of the Statement's table words and the real class files: 20 classes; the members and pool entries that the words name. The judged class is class 1, her method 3. -/
namespace start1
open Jvm.ClassFile
def u (s : String) : CpInfo := .utf8 (stringToUtf16 s)
/-- a pool by its gaps: so many unusable entries, then the entry; so many at the end -/
def gap : Nat → List CpInfo → List CpInfo
  | 0, r => r
  | n + 1, r => .unusable :: gap n r
def poolList (es : List (Nat × CpInfo)) (last : Nat) : List CpInfo := es.foldr (fun e r => gap e.1 (e.2 :: r)) (gap last [])
def pool (es : List (Nat × CpInfo)) (last : Nat) : Array CpInfo := ⟨poolList es last⟩
def fileOf (pool : Array CpInfo) (this : Nat) (attrs : Array Attribute := #[]) (ms : Array MethodInfo := #[]) (fl : Nat := 33) (sup : Nat := 0) (ifs : Array Nat := #[]) (fds : Array FieldInfo := #[]) : ClassFile where
  minorVersion := 0
  majorVersion := 65
  constantPool := pool
  accessFlags := fl
  thisClass := this
  superClass := sup
  interfaces := ifs
  fields := fds
  methods := ms
  attributes := attrs
def plain (name : String) (sup : Option ClassId) : Class where
  name := name
  kind := .ordinary
  loader := none
  accessFlags := 33
  super := sup
  interfaces := #[]
  cf := none
  fields := #[]
  methods := #[]
  instanceTypes := #[]
  staticTypes := #[]
  resolved := #[]
  callSites := []
  init := .initialized
  statics := none
  mirror := none

def pool0 : Array CpInfo := pool [(5, u "<init>"), (0, u "()V"), (1, .class_ 10), (1, u "java/lang/Object")] 113

def k0c0 : Code := { maxStack := 0, maxLocals := 1, code := object_method_1_code, exceptionTable := #[], attributes := #[] }
def k0m0 : Method := { name := "<init>", desc := "()V", sig := { parameters := [], returnType := none }, accessFlags := 1, code := some k0c0 }
/-- java/lang/Object -/
def k0 : Class := { plain "java/lang/Object" none with
  accessFlags := 33
  interfaces := #[]
  cf := some (fileOf pool0 8 #[] #[{ accessFlags := 1, nameIndex := 5, descriptorIndex := 6, attributes := #[] }] 33 0 #[] #[])
  fields := #[]
  methods := #[k0m0]
  instanceTypes := #[]
  staticTypes := #[]
  resolved := Array.replicate 124 none
  statics := none }

def pool1 : Array CpInfo := pool [(2, .class_ 4), (1, u "java/lang/Object"), (0, u "<init>"), (0, u "()V"), (0, .methodref 8 9), (0, .class_ 10), (0, .nameAndType 11 12), (0, u "com/example/sigyn/sigyn/sip/SipScannerAtEndPinLaw"), (0, u "draw"), (0, u "(I)C"), (0, .class_ 14), (0, u "java/lang/String"), (0, .methodref 13 16), (0, .nameAndType 5 17), (0, u "([C)V"), (0, .class_ 19), (0, u "com/example/sigyn/sigyn/sip/SipScanner"), (0, .methodref 18 21), (0, .nameAndType 5 22), (0, u "(Ljava/lang/String;)V"), (0, .methodref 18 24), (0, .nameAndType 25 26), (0, u "atEnd"), (0, u "()Z"), (0, .methodref 18 28), (0, .nameAndType 29 30), (0, u "skipSpace"), (0, u "()I"), (0, .methodref 8 32), (0, .nameAndType 33 34), (0, u "sp"), (0, u "(C)Z"), (3, u "law"), (0, u "(IIII)Z")] 4

def k1m0 : Method := { name := "<init>", desc := "()V", sig := { parameters := [], returnType := none }, accessFlags := 1, code := none }
def k1c1 : Code := { maxStack := 2, maxLocals := 2, code := method_2_code, exceptionTable := #[], attributes := #[] }
def k1m1 : Method := { name := "draw", desc := "(I)C", sig := { parameters := [.int], returnType := some .char }, accessFlags := 10, code := some k1c1 }
def k1c2 : Code := { maxStack := 2, maxLocals := 1, code := method_3_code, exceptionTable := #[], attributes := #[] }
def k1m2 : Method := { name := "sp", desc := "(C)Z", sig := { parameters := [.char], returnType := some .boolean }, accessFlags := 10, code := some k1c2 }
def k1c3 : Code := { maxStack := 3, maxLocals := 15, code := code, exceptionTable := #[], attributes := #[] }
def k1m3 : Method := { name := "law", desc := "(IIII)Z", sig := { parameters := [.int, .int, .int, .int], returnType := some .boolean }, accessFlags := 9, code := some k1c3 }
/-- com/example/sigyn/sigyn/sip/SipScannerAtEndPinLaw -/
def k1 : Class := { plain "com/example/sigyn/sigyn/sip/SipScannerAtEndPinLaw" (some 0) with
  accessFlags := 49
  interfaces := #[]
  cf := some (fileOf pool1 8 #[] #[{ accessFlags := 1, nameIndex := 5, descriptorIndex := 6, attributes := #[] }, { accessFlags := 10, nameIndex := 11, descriptorIndex := 12, attributes := #[] }, { accessFlags := 10, nameIndex := 33, descriptorIndex := 34, attributes := #[] }, { accessFlags := 9, nameIndex := 38, descriptorIndex := 39, attributes := #[] }] 49 2 #[] #[])
  fields := #[]
  methods := #[k1m0, k1m1, k1m2, k1m3]
  instanceTypes := #[]
  staticTypes := #[]
  resolved := Array.replicate 44 none
  statics := none }

def pool2 : Array CpInfo := pool [(1, .class_ 2), (0, u "java/io/Serializable"), (0, .class_ 4), (0, u "java/lang/Object")] 2

/-- java/io/Serializable -/
def k2 : Class := { plain "java/io/Serializable" (some 0) with
  accessFlags := 1537
  interfaces := #[]
  cf := some (fileOf pool2 1 #[] #[] 1537 3 #[] #[])
  fields := #[]
  methods := #[]
  instanceTypes := #[]
  staticTypes := #[]
  resolved := Array.replicate 7 none
  statics := none }

def pool3 : Array CpInfo := pool [(1, .class_ 2), (0, u "java/lang/Comparable"), (0, .class_ 4), (0, u "java/lang/Object")] 7

/-- java/lang/Comparable -/
def k3 : Class := { plain "java/lang/Comparable" (some 0) with
  accessFlags := 1537
  interfaces := #[]
  cf := some (fileOf pool3 1 #[] #[] 1537 3 #[] #[])
  fields := #[]
  methods := #[]
  instanceTypes := #[]
  staticTypes := #[]
  resolved := Array.replicate 12 none
  statics := none }

def pool4 : Array CpInfo := pool [(2, .class_ 4), (1, u "java/lang/CharSequence"), (42, .class_ 48), (0, u "java/lang/CharSequence$1CodePointIterator"), (10, .class_ 60), (0, u "java/lang/CharSequence$1CharIterator"), (5, .class_ 67), (0, u "java/lang/Object")] 63

/-- java/lang/CharSequence -/
def k4 : Class := { plain "java/lang/CharSequence" (some 0) with
  accessFlags := 1537
  interfaces := #[]
  cf := some (fileOf pool4 2 #[.nestMembers #[47, 59]] #[] 1537 66 #[] #[])
  fields := #[]
  methods := #[]
  instanceTypes := #[]
  staticTypes := #[]
  resolved := Array.replicate 131 none
  statics := none }

def pool5 : Array CpInfo := pool [(1, .class_ 2), (0, u "java/lang/constant/Constable"), (0, .class_ 4), (0, u "java/lang/Object")] 6

/-- java/lang/constant/Constable -/
def k5 : Class := { plain "java/lang/constant/Constable" (some 0) with
  accessFlags := 1537
  interfaces := #[]
  cf := some (fileOf pool5 1 #[] #[] 1537 3 #[] #[])
  fields := #[]
  methods := #[]
  instanceTypes := #[]
  staticTypes := #[]
  resolved := Array.replicate 11 none
  statics := none }

def pool6 : Array CpInfo := pool [(1, .class_ 2), (0, u "java/lang/constant/ConstantDesc"), (0, .class_ 4), (0, u "java/lang/Object")] 32

/-- java/lang/constant/ConstantDesc -/
def k6 : Class := { plain "java/lang/constant/ConstantDesc" (some 0) with
  accessFlags := 1537
  interfaces := #[]
  cf := some (fileOf pool6 1 #[] #[] 1537 3 #[] #[])
  fields := #[]
  methods := #[]
  instanceTypes := #[]
  staticTypes := #[]
  resolved := Array.replicate 37 none
  statics := none }

def pool7 : Array CpInfo := pool [(1, .methodref 2 3), (0, .class_ 4), (0, .nameAndType 5 6), (0, u "java/lang/Object"), (0, u "<init>"), (0, u "()V"), (0, .string 8), (0, u ""), (0, .fieldref 10 11), (0, .class_ 12), (0, .nameAndType 13 14), (0, u "java/lang/String"), (0, u "value"), (0, u "[B"), (0, .fieldref 10 16), (0, .nameAndType 17 18), (0, u "coder"), (0, u "B"), (2, u "hash"), (0, u "I"), (2, u "hashIsZero"), (0, u "Z"), (0, .methodref 10 28), (0, .nameAndType 5 29), (0, u "([CIILjava/lang/Void;)V"), (8, .fieldref 10 39), (0, .nameAndType 40 26), (0, u "COMPACT_STRINGS"), (1, .class_ 44), (1, u "java/lang/StringUTF16"), (0, u "compress"), (1, .methodref 42 48), (0, .nameAndType 49 50), (0, u "coderFromArrayLen"), (0, u "([BI)B"), (56, .class_ 109), (1, u "java/lang/StringLatin1"), (32, u "()Z"), (34, .methodref 42 178), (0, .nameAndType 45 179), (0, u "([CII)[B"), (154, u "()I"), (0, .methodref 10 336), (0, .nameAndType 17 337), (0, u "()B"), (25, u "([BI)C"), (27, u "(II)V"), (35, u "(I)C"), (64, .methodref 10 493), (0, .nameAndType 494 142), (0, u "isLatin1"), (0, .methodref 107 496), (0, .nameAndType 497 363), (0, u "charAt"), (3, u "checkIndex"), (5, u "length"), (67, .class_ 576), (0, u "java/lang/CharSequence"), (22, u "CASE_INSENSITIVE_ORDER"), (0, u "Ljava/util/Comparator;"), (409, u "([C)V"), (42, .fieldref 1054 1055), (0, .class_ 1056), (0, .nameAndType 1057 1058), (0, u "jdk/internal/util/Preconditions"), (0, u "SIOOBE_FORMATTER"), (0, u "Ljava/util/function/BiFunction;"), (0, .methodref 1054 1060), (0, .nameAndType 501 1061), (0, u "(IILjava/util/function/BiFunction;)I"), (39, u "serialPersistentFields"), (0, u "[Ljava/io/ObjectStreamField;"), (0, .class_ 1104), (0, u "java/lang/String$CaseInsensitiveComparator"), (1, .class_ 1107), (0, u "java/io/Serializable"), (0, .class_ 1109), (0, u "java/lang/Comparable"), (0, .class_ 1111), (0, u "java/lang/constant/Constable"), (0, .class_ 1113), (0, u "java/lang/constant/ConstantDesc"), (2, u "serialVersionUID"), (0, u "J"), (3, u "REPL"), (0, u "C"), (2, u "LATIN1"), (1, u "UTF16")] 323

def k7m0 : Method := { name := "<init>", desc := "()V", sig := { parameters := [], returnType := none }, accessFlags := 1, code := none }
def k7c1 : Code := { maxStack := 5, maxLocals := 2, code := jdk_42_method_3_code, exceptionTable := #[], attributes := #[] }
def k7m1 : Method := { name := "<init>", desc := "([C)V", sig := { parameters := [(.array .char)], returnType := none }, accessFlags := 1, code := some k7c1 }
def k7c2 : Code := { maxStack := 2, maxLocals := 1, code := jdk_42_method_54_code, exceptionTable := #[], attributes := #[] }
def k7m2 : Method := { name := "length", desc := "()I", sig := { parameters := [], returnType := some .int }, accessFlags := 1, code := some k7c2 }
def k7c3 : Code := { maxStack := 2, maxLocals := 2, code := jdk_42_method_56_code, exceptionTable := #[], attributes := #[] }
def k7m3 : Method := { name := "charAt", desc := "(I)C", sig := { parameters := [.int], returnType := some .char }, accessFlags := 1, code := some k7c3 }
def k7c4 : Code := { maxStack := 4, maxLocals := 6, code := jdk_42_method_149_code, exceptionTable := #[], attributes := #[] }
def k7m4 : Method := { name := "<init>", desc := "([CIILjava/lang/Void;)V", sig := { parameters := [(.array .char), .int, .int, (.object "java/lang/Void")], returnType := none }, accessFlags := 2, code := some k7c4 }
def k7c5 : Code := { maxStack := 1, maxLocals := 1, code := jdk_42_method_152_code, exceptionTable := #[], attributes := #[] }
def k7m5 : Method := { name := "coder", desc := "()B", sig := { parameters := [], returnType := some .byte }, accessFlags := 0, code := some k7c5 }
def k7c6 : Code := { maxStack := 1, maxLocals := 1, code := jdk_42_method_154_code, exceptionTable := #[], attributes := #[] }
def k7m6 : Method := { name := "isLatin1", desc := "()Z", sig := { parameters := [], returnType := some .boolean }, accessFlags := 0, code := some k7c6 }
def k7c7 : Code := { maxStack := 3, maxLocals := 2, code := jdk_42_method_155_code, exceptionTable := #[], attributes := #[] }
def k7m7 : Method := { name := "checkIndex", desc := "(II)V", sig := { parameters := [.int, .int], returnType := none }, accessFlags := 8, code := some k7c7 }
/-- java/lang/String -/
def k7 : Class := { plain "java/lang/String" (some 0) with
  accessFlags := 49
  interfaces := #[2, 3, 4, 5, 6]
  cf := some (fileOf pool7 10 #[.nestMembers #[1103]] #[{ accessFlags := 1, nameIndex := 5, descriptorIndex := 6, attributes := #[] }, { accessFlags := 1, nameIndex := 5, descriptorIndex := 1010, attributes := #[] }, { accessFlags := 1, nameIndex := 507, descriptorIndex := 334, attributes := #[] }, { accessFlags := 1, nameIndex := 497, descriptorIndex := 427, attributes := #[] }, { accessFlags := 2, nameIndex := 5, descriptorIndex := 29, attributes := #[] }, { accessFlags := 0, nameIndex := 17, descriptorIndex := 337, attributes := #[] }, { accessFlags := 0, nameIndex := 494, descriptorIndex := 142, attributes := #[] }, { accessFlags := 8, nameIndex := 501, descriptorIndex := 391, attributes := #[] }] 49 2 #[1106, 1108, 575, 1110, 1112] #[{ accessFlags := 18, nameIndex := 13, descriptorIndex := 14, attributes := #[] }, { accessFlags := 18, nameIndex := 17, descriptorIndex := 18, attributes := #[] }, { accessFlags := 2, nameIndex := 21, descriptorIndex := 22, attributes := #[] }, { accessFlags := 2, nameIndex := 25, descriptorIndex := 26, attributes := #[] }, { accessFlags := 26, nameIndex := 1116, descriptorIndex := 1117, attributes := #[] }, { accessFlags := 24, nameIndex := 40, descriptorIndex := 26, attributes := #[] }, { accessFlags := 26, nameIndex := 1101, descriptorIndex := 1102, attributes := #[] }, { accessFlags := 26, nameIndex := 1121, descriptorIndex := 1122, attributes := #[] }, { accessFlags := 25, nameIndex := 599, descriptorIndex := 600, attributes := #[] }, { accessFlags := 24, nameIndex := 1125, descriptorIndex := 18, attributes := #[] }, { accessFlags := 24, nameIndex := 1127, descriptorIndex := 18, attributes := #[] }])
  fields := #[{ name := "value", type := (.array .byte), accessFlags := 18, slot := 0, constantValue := 0 }, { name := "coder", type := .byte, accessFlags := 18, slot := 1, constantValue := 0 }, { name := "hash", type := .int, accessFlags := 2, slot := 2, constantValue := 0 }, { name := "hashIsZero", type := .boolean, accessFlags := 2, slot := 3, constantValue := 0 }, { name := "serialVersionUID", type := .long, accessFlags := 26, slot := 0, constantValue := 0 }, { name := "COMPACT_STRINGS", type := .boolean, accessFlags := 24, slot := 1, constantValue := 0 }, { name := "serialPersistentFields", type := (.array (.object "java/io/ObjectStreamField")), accessFlags := 26, slot := 2, constantValue := 0 }, { name := "REPL", type := .char, accessFlags := 26, slot := 3, constantValue := 0 }, { name := "CASE_INSENSITIVE_ORDER", type := (.object "java/util/Comparator"), accessFlags := 25, slot := 4, constantValue := 0 }, { name := "LATIN1", type := .byte, accessFlags := 24, slot := 5, constantValue := 0 }, { name := "UTF16", type := .byte, accessFlags := 24, slot := 6, constantValue := 0 }]
  methods := #[k7m0, k7m1, k7m2, k7m3, k7m4, k7m5, k7m6, k7m7]
  instanceTypes := #[(.array .byte), .byte, .int, .boolean]
  staticTypes := #[.long, .boolean, (.array (.object "java/io/ObjectStreamField")), .char, (.object "java/util/Comparator"), .byte, .byte]
  resolved := Array.replicate 1451 none
  statics := some 0 }

def pool8 : Array CpInfo := pool [(1, .methodref 2 3), (0, .class_ 4), (0, .nameAndType 5 6), (0, u "java/lang/Object"), (0, u "<init>"), (0, u "()V"), (0, .fieldref 8 9), (0, .class_ 10), (0, .nameAndType 11 12), (0, u "com/example/sigyn/sigyn/sip/SipScanner"), (0, u "text"), (0, u "Ljava/lang/String;"), (0, .fieldref 8 14), (0, .nameAndType 15 16), (0, u "pos"), (0, u "I"), (0, .methodref 18 19), (0, .class_ 20), (0, .nameAndType 21 22), (0, u "java/lang/String"), (0, u "length"), (0, u "()I"), (0, .methodref 18 24), (0, .nameAndType 25 26), (0, u "charAt"), (0, u "(I)C"), (0, .methodref 8 28), (0, .nameAndType 29 30), (0, u "isSpace"), (0, u "(C)Z"), (2, u "skipSpace"), (60, u "TOKEN_MARKS"), (1, u "MAX_PORT"), (0, u "(Ljava/lang/String;)V"), (2, u "atEnd"), (0, u "()Z")] 11

def k8c0 : Code := { maxStack := 2, maxLocals := 2, code := prog_48_method_1_code, exceptionTable := #[], attributes := #[] }
def k8m0 : Method := { name := "<init>", desc := "(Ljava/lang/String;)V", sig := { parameters := [(.object "java/lang/String")], returnType := none }, accessFlags := 0, code := some k8c0 }
def k8c1 : Code := { maxStack := 2, maxLocals := 1, code := prog_48_method_2_code, exceptionTable := #[], attributes := #[] }
def k8m1 : Method := { name := "atEnd", desc := "()Z", sig := { parameters := [], returnType := some .boolean }, accessFlags := 0, code := some k8c1 }
def k8c2 : Code := { maxStack := 3, maxLocals := 2, code := prog_48_method_3_code, exceptionTable := #[], attributes := #[] }
def k8m2 : Method := { name := "skipSpace", desc := "()I", sig := { parameters := [], returnType := some .int }, accessFlags := 0, code := some k8c2 }
def k8c3 : Code := { maxStack := 2, maxLocals := 1, code := prog_48_method_13_code, exceptionTable := #[], attributes := #[] }
def k8m3 : Method := { name := "isSpace", desc := "(C)Z", sig := { parameters := [.char], returnType := some .boolean }, accessFlags := 8, code := some k8c3 }
/-- com/example/sigyn/sigyn/sip/SipScanner -/
def k8 : Class := { plain "com/example/sigyn/sigyn/sip/SipScanner" (some 0) with
  accessFlags := 32
  interfaces := #[]
  cf := some (fileOf pool8 8 #[] #[{ accessFlags := 0, nameIndex := 5, descriptorIndex := 97, attributes := #[] }, { accessFlags := 0, nameIndex := 100, descriptorIndex := 101, attributes := #[] }, { accessFlags := 0, nameIndex := 33, descriptorIndex := 22, attributes := #[] }, { accessFlags := 8, nameIndex := 29, descriptorIndex := 30, attributes := #[] }] 32 2 #[] #[{ accessFlags := 26, nameIndex := 94, descriptorIndex := 12, attributes := #[] }, { accessFlags := 26, nameIndex := 96, descriptorIndex := 16, attributes := #[] }, { accessFlags := 18, nameIndex := 11, descriptorIndex := 12, attributes := #[] }, { accessFlags := 2, nameIndex := 15, descriptorIndex := 16, attributes := #[] }])
  fields := #[{ name := "TOKEN_MARKS", type := (.object "java/lang/String"), accessFlags := 26, slot := 0, constantValue := 0 }, { name := "MAX_PORT", type := .int, accessFlags := 26, slot := 1, constantValue := 0 }, { name := "text", type := (.object "java/lang/String"), accessFlags := 18, slot := 0, constantValue := 0 }, { name := "pos", type := .int, accessFlags := 2, slot := 1, constantValue := 0 }]
  methods := #[k8m0, k8m1, k8m2, k8m3]
  instanceTypes := #[(.object "java/lang/String"), .int]
  staticTypes := #[(.object "java/lang/String"), .int]
  resolved := Array.replicate 113 none
  statics := none }

def pool9 : Array CpInfo := pool [(6, .class_ 8), (1, u "java/lang/Object"), (0, u "<init>"), (0, u "()V"), (1, .class_ 14), (1, u "java/lang/StringUTF16"), (31, u "$assertionsDisabled"), (0, u "Z"), (13, u "HI_BYTE_SHIFT"), (0, u "I"), (2, u "LO_BYTE_SHIFT"), (49, .methodref 12 116), (0, .nameAndType 117 118), (0, u "compress"), (0, u "([CI[BII)I"), (3, u "([CII)[B"), (138, u "coderFromArrayLen"), (0, u "([BI)B"), (106, .class_ 371), (1, u "java/lang/StringUTF16$LinesSpliterator"), (58, u "MAX_LENGTH"), (196, .class_ 628), (0, u "java/lang/StringUTF16$CodePointsSpliterator"), (0, .class_ 630), (0, u "java/lang/StringUTF16$CharsSpliterator")] 4

def k9m0 : Method := { name := "<init>", desc := "()V", sig := { parameters := [], returnType := none }, accessFlags := 0, code := none }
def k9c1 : Code := { maxStack := 2, maxLocals := 2, code := jdk_52_method_15_code, exceptionTable := #[], attributes := #[] }
def k9m1 : Method := { name := "coderFromArrayLen", desc := "([BI)B", sig := { parameters := [(.array .byte), .int], returnType := some .byte }, accessFlags := 8, code := some k9c1 }
def k9c2 : Code := { maxStack := 5, maxLocals := 6, code := jdk_52_method_16_code, exceptionTable := #[], attributes := #[] }
def k9m2 : Method := { name := "compress", desc := "([CII)[B", sig := { parameters := [(.array .char), .int, .int], returnType := some (.array .byte) }, accessFlags := 9, code := some k9c2 }
def k9c3 : Code := { maxStack := 3, maxLocals := 7, code := jdk_52_method_21_code, exceptionTable := #[], attributes := #[] }
def k9m3 : Method := { name := "compress", desc := "([CI[BII)I", sig := { parameters := [(.array .char), .int, (.array .byte), .int, .int], returnType := some .int }, accessFlags := 9, code := some k9c3 }
/-- java/lang/StringUTF16 -/
def k9 : Class := { plain "java/lang/StringUTF16" (some 0) with
  accessFlags := 48
  interfaces := #[]
  cf := some (fileOf pool9 12 #[.nestMembers #[627, 629, 369]] #[{ accessFlags := 0, nameIndex := 9, descriptorIndex := 10, attributes := #[] }, { accessFlags := 8, nameIndex := 261, descriptorIndex := 262, attributes := #[] }, { accessFlags := 9, nameIndex := 117, descriptorIndex := 122, attributes := #[] }, { accessFlags := 9, nameIndex := 117, descriptorIndex := 118, attributes := #[] }] 48 6 #[] #[{ accessFlags := 26, nameIndex := 61, descriptorIndex := 62, attributes := #[] }, { accessFlags := 26, nameIndex := 65, descriptorIndex := 62, attributes := #[] }, { accessFlags := 24, nameIndex := 430, descriptorIndex := 62, attributes := #[] }, { accessFlags := 4120, nameIndex := 46, descriptorIndex := 47, attributes := #[] }])
  fields := #[{ name := "HI_BYTE_SHIFT", type := .int, accessFlags := 26, slot := 0, constantValue := 0 }, { name := "LO_BYTE_SHIFT", type := .int, accessFlags := 26, slot := 1, constantValue := 0 }, { name := "MAX_LENGTH", type := .int, accessFlags := 24, slot := 2, constantValue := 0 }, { name := "$assertionsDisabled", type := .boolean, accessFlags := 4120, slot := 3, constantValue := 0 }]
  methods := #[k9m0, k9m1, k9m2, k9m3]
  instanceTypes := #[]
  staticTypes := #[.int, .int, .int, .boolean]
  resolved := Array.replicate 635 none
  statics := none }

def pool10 : Array CpInfo := pool [(1, .class_ 2), (0, u "java/lang/String"), (1, .class_ 6), (1, u "java/lang/Object"), (0, u "<init>"), (0, u "()V"), (0, .methodref 1 10), (0, .nameAndType 11 12), (0, u "checkIndex"), (0, u "(II)V"), (1, .class_ 16), (1, u "java/lang/StringLatin1"), (36, u "([BI)C"), (67, u "$assertionsDisabled"), (0, u "Z"), (98, .class_ 223), (1, u "java/lang/StringLatin1$LinesSpliterator"), (28, u "charAt"), (137, .class_ 391), (0, u "java/lang/StringLatin1$CharsSpliterator")] 3

def k10m0 : Method := { name := "<init>", desc := "()V", sig := { parameters := [], returnType := none }, accessFlags := 0, code := none }
def k10c1 : Code := { maxStack := 2, maxLocals := 2, code := jdk_43_method_2_code, exceptionTable := #[], attributes := #[] }
def k10m1 : Method := { name := "charAt", desc := "([BI)C", sig := { parameters := [(.array .byte), .int], returnType := some .char }, accessFlags := 9, code := some k10c1 }
/-- java/lang/StringLatin1 -/
def k10 : Class := { plain "java/lang/StringLatin1" (some 0) with
  accessFlags := 48
  interfaces := #[]
  cf := some (fileOf pool10 14 #[.nestMembers #[390, 221]] #[{ accessFlags := 0, nameIndex := 7, descriptorIndex := 8, attributes := #[] }, { accessFlags := 9, nameIndex := 252, descriptorIndex := 53, attributes := #[] }] 48 4 #[] #[{ accessFlags := 4120, nameIndex := 121, descriptorIndex := 122, attributes := #[] }])
  fields := #[{ name := "$assertionsDisabled", type := .boolean, accessFlags := 4120, slot := 0, constantValue := 0 }]
  methods := #[k10m0, k10m1]
  instanceTypes := #[]
  staticTypes := #[.boolean]
  resolved := Array.replicate 395 none
  statics := none }

def pool11 : Array CpInfo := pool [(2, .class_ 4), (1, u "java/lang/Object"), (0, u "<init>"), (0, u "()V"), (17, .class_ 26), (1, u "jdk/internal/util/Preconditions"), (6, u "checkIndex"), (21, .class_ 56), (0, u "jdk/internal/util/Preconditions$4"), (57, .class_ 115), (0, u "jdk/internal/util/Preconditions$1"), (7, u "SIOOBE_FORMATTER"), (0, u "Ljava/util/function/BiFunction;"), (0, .class_ 126), (0, u "jdk/internal/util/Preconditions$2"), (3, u "AIOOBE_FORMATTER"), (0, .class_ 132), (0, u "jdk/internal/util/Preconditions$3"), (3, u "IOOBE_FORMATTER"), (41, u "(IILjava/util/function/BiFunction;)I")] 15

def k11m0 : Method := { name := "<init>", desc := "()V", sig := { parameters := [], returnType := none }, accessFlags := 1, code := none }
def k11c1 : Code := { maxStack := 3, maxLocals := 3, code := jdk_41_method_11_code, exceptionTable := #[], attributes := #[] }
def k11m1 : Method := { name := "checkIndex", desc := "(IILjava/util/function/BiFunction;)I", sig := { parameters := [.int, .int, (.object "java/util/function/BiFunction")], returnType := some .int }, accessFlags := 9, code := some k11c1 }
/-- jdk/internal/util/Preconditions -/
def k11 : Class := { plain "jdk/internal/util/Preconditions" (some 0) with
  accessFlags := 33
  interfaces := #[]
  cf := some (fileOf pool11 24 #[.nestMembers #[55, 131, 125, 114]] #[{ accessFlags := 1, nameIndex := 5, descriptorIndex := 6, attributes := #[] }, { accessFlags := 9, nameIndex := 33, descriptorIndex := 178, attributes := #[] }] 33 2 #[] #[{ accessFlags := 25, nameIndex := 123, descriptorIndex := 124, attributes := #[] }, { accessFlags := 25, nameIndex := 130, descriptorIndex := 124, attributes := #[] }, { accessFlags := 25, nameIndex := 136, descriptorIndex := 124, attributes := #[] }])
  fields := #[{ name := "SIOOBE_FORMATTER", type := (.object "java/util/function/BiFunction"), accessFlags := 25, slot := 0, constantValue := 0 }, { name := "AIOOBE_FORMATTER", type := (.object "java/util/function/BiFunction"), accessFlags := 25, slot := 1, constantValue := 0 }, { name := "IOOBE_FORMATTER", type := (.object "java/util/function/BiFunction"), accessFlags := 25, slot := 2, constantValue := 0 }]
  methods := #[k11m0, k11m1]
  instanceTypes := #[]
  staticTypes := #[(.object "java/util/function/BiFunction"), (.object "java/util/function/BiFunction"), (.object "java/util/function/BiFunction")]
  resolved := Array.replicate 194 none
  statics := some 1 }

def pool12 : Array CpInfo := pool [(9, u "<init>"), (6, .class_ 18), (1, u "java/lang/Object"), (0, u "()V"), (1, .class_ 23), (1, u "jdk/internal/util/ArraysSupport"), (0, u "LOG2_ARRAY_LONG_INDEX_SCALE"), (0, u "I"), (2, u "U"), (0, u "Ljdk/internal/misc/Unsafe;"), (8, u "BIG_ENDIAN"), (0, u "Z"), (8, u "LOG2_BYTE_BIT_SIZE"), (4, u "LOG2_ARRAY_INT_INDEX_SCALE"), (54, u "JLA"), (0, u "Ljdk/internal/access/JavaLangAccess;"), (11, u "LOG2_ARRAY_BOOLEAN_INDEX_SCALE"), (9, u "LOG2_ARRAY_BYTE_INDEX_SCALE"), (5, u "LOG2_ARRAY_CHAR_INDEX_SCALE"), (5, u "LOG2_ARRAY_SHORT_INDEX_SCALE"), (18, u "LOG2_ARRAY_FLOAT_INDEX_SCALE"), (24, u "LOG2_ARRAY_DOUBLE_INDEX_SCALE"), (89, u "T_BOOLEAN"), (2, u "T_CHAR"), (1, u "T_FLOAT"), (1, u "T_DOUBLE"), (1, u "T_BYTE"), (1, u "T_SHORT"), (1, u "T_INT"), (1, u "T_LONG"), (1, u "SOFT_MAX_ARRAY_LENGTH")] 83

def k12m0 : Method := { name := "<init>", desc := "()V", sig := { parameters := [], returnType := none }, accessFlags := 2, code := none }
/-- jdk/internal/util/ArraysSupport -/
def k12 : Class := { plain "jdk/internal/util/ArraysSupport" (some 0) with
  accessFlags := 33
  interfaces := #[]
  cf := some (fileOf pool12 21 #[] #[{ accessFlags := 2, nameIndex := 9, descriptorIndex := 19, attributes := #[] }] 33 16 #[] #[{ accessFlags := 24, nameIndex := 28, descriptorIndex := 29, attributes := #[] }, { accessFlags := 26, nameIndex := 38, descriptorIndex := 39, attributes := #[] }, { accessFlags := 25, nameIndex := 121, descriptorIndex := 25, attributes := #[] }, { accessFlags := 25, nameIndex := 131, descriptorIndex := 25, attributes := #[] }, { accessFlags := 25, nameIndex := 137, descriptorIndex := 25, attributes := #[] }, { accessFlags := 25, nameIndex := 143, descriptorIndex := 25, attributes := #[] }, { accessFlags := 25, nameIndex := 53, descriptorIndex := 25, attributes := #[] }, { accessFlags := 25, nameIndex := 24, descriptorIndex := 25, attributes := #[] }, { accessFlags := 25, nameIndex := 162, descriptorIndex := 25, attributes := #[] }, { accessFlags := 25, nameIndex := 187, descriptorIndex := 25, attributes := #[] }, { accessFlags := 26, nameIndex := 48, descriptorIndex := 25, attributes := #[] }, { accessFlags := 25, nameIndex := 277, descriptorIndex := 25, attributes := #[] }, { accessFlags := 25, nameIndex := 280, descriptorIndex := 25, attributes := #[] }, { accessFlags := 25, nameIndex := 282, descriptorIndex := 25, attributes := #[] }, { accessFlags := 25, nameIndex := 284, descriptorIndex := 25, attributes := #[] }, { accessFlags := 25, nameIndex := 286, descriptorIndex := 25, attributes := #[] }, { accessFlags := 25, nameIndex := 288, descriptorIndex := 25, attributes := #[] }, { accessFlags := 25, nameIndex := 290, descriptorIndex := 25, attributes := #[] }, { accessFlags := 25, nameIndex := 292, descriptorIndex := 25, attributes := #[] }, { accessFlags := 26, nameIndex := 108, descriptorIndex := 109, attributes := #[] }, { accessFlags := 25, nameIndex := 294, descriptorIndex := 25, attributes := #[] }])
  fields := #[{ name := "U", type := (.object "jdk/internal/misc/Unsafe"), accessFlags := 24, slot := 0, constantValue := 0 }, { name := "BIG_ENDIAN", type := .boolean, accessFlags := 26, slot := 1, constantValue := 0 }, { name := "LOG2_ARRAY_BOOLEAN_INDEX_SCALE", type := .int, accessFlags := 25, slot := 2, constantValue := 0 }, { name := "LOG2_ARRAY_BYTE_INDEX_SCALE", type := .int, accessFlags := 25, slot := 3, constantValue := 0 }, { name := "LOG2_ARRAY_CHAR_INDEX_SCALE", type := .int, accessFlags := 25, slot := 4, constantValue := 0 }, { name := "LOG2_ARRAY_SHORT_INDEX_SCALE", type := .int, accessFlags := 25, slot := 5, constantValue := 0 }, { name := "LOG2_ARRAY_INT_INDEX_SCALE", type := .int, accessFlags := 25, slot := 6, constantValue := 0 }, { name := "LOG2_ARRAY_LONG_INDEX_SCALE", type := .int, accessFlags := 25, slot := 7, constantValue := 0 }, { name := "LOG2_ARRAY_FLOAT_INDEX_SCALE", type := .int, accessFlags := 25, slot := 8, constantValue := 0 }, { name := "LOG2_ARRAY_DOUBLE_INDEX_SCALE", type := .int, accessFlags := 25, slot := 9, constantValue := 0 }, { name := "LOG2_BYTE_BIT_SIZE", type := .int, accessFlags := 26, slot := 10, constantValue := 0 }, { name := "T_BOOLEAN", type := .int, accessFlags := 25, slot := 11, constantValue := 0 }, { name := "T_CHAR", type := .int, accessFlags := 25, slot := 12, constantValue := 0 }, { name := "T_FLOAT", type := .int, accessFlags := 25, slot := 13, constantValue := 0 }, { name := "T_DOUBLE", type := .int, accessFlags := 25, slot := 14, constantValue := 0 }, { name := "T_BYTE", type := .int, accessFlags := 25, slot := 15, constantValue := 0 }, { name := "T_SHORT", type := .int, accessFlags := 25, slot := 16, constantValue := 0 }, { name := "T_INT", type := .int, accessFlags := 25, slot := 17, constantValue := 0 }, { name := "T_LONG", type := .int, accessFlags := 25, slot := 18, constantValue := 0 }, { name := "JLA", type := (.object "jdk/internal/access/JavaLangAccess"), accessFlags := 26, slot := 19, constantValue := 0 }, { name := "SOFT_MAX_ARRAY_LENGTH", type := .int, accessFlags := 25, slot := 20, constantValue := 0 }]
  methods := #[k12m0]
  instanceTypes := #[]
  staticTypes := #[(.object "jdk/internal/misc/Unsafe"), .boolean, .int, .int, .int, .int, .int, .int, .int, .int, .int, .int, .int, .int, .int, .int, .int, .int, .int, (.object "jdk/internal/access/JavaLangAccess"), .int]
  resolved := Array.replicate 378 none
  statics := none }

def pool13 : Array CpInfo := pool [(1, u "java/lang/Cloneable"), (0, .class_ 1), (0, u "java/lang/Object"), (0, .class_ 3)] 3

/-- java/lang/Cloneable -/
def k13 : Class := { plain "java/lang/Cloneable" (some 0) with
  accessFlags := 1537
  interfaces := #[]
  cf := some (fileOf pool13 2 #[] #[] 1537 4 #[] #[])
  fields := #[]
  methods := #[]
  instanceTypes := #[]
  staticTypes := #[]
  resolved := Array.replicate 8 none
  statics := none }

/-- the primitive byte -/
def k14 : Class := { plain "byte" none with kind := .primitive 'B', accessFlags := 0x411 }
/-- [B -/
def k15 : Class := { plain "[B" (some 0) with kind := .array 14 .byte, interfaces := #[13, 2], accessFlags := 1041 }

/-- the primitive char -/
def k16 : Class := { plain "char" none with kind := .primitive 'C', accessFlags := 0x411 }
/-- [C -/
def k17 : Class := { plain "[C" (some 0) with kind := .array 16 .char, interfaces := #[13, 2], accessFlags := 1041 }

/-- the primitive int -/
def k18 : Class := { plain "int" none with kind := .primitive 'I', accessFlags := 0x411 }
/-- [I -/
def k19 : Class := { plain "[I" (some 0) with kind := .array 18 .int, interfaces := #[13, 2], accessFlags := 1041 }

def heap : Heap := #[{ cls := 7, slots := #[.long 0, .int 1, .null, .int 0, .null, .int 0, .int 0], vm := .statics 7 },
  { cls := 11, slots := #[.null, .null, .null], vm := .statics 11 }]
def classes : Array Class := #[k0, k1, k2, k3, k4, k5, k6, k7, k8, k9, k10, k11, k12, k13, k14, k15, k16, k17, k18, k19]
def interned : List (Array UInt16 × Addr) := []
def slotsUsed : Nat := 10
def theMethod : MethodId := ⟨1, 3⟩
def args0 : Array Value := #[.int 1, .int 4, .int 7, .int 7]
def aboutOver (below : List Frame) : State where
  vm := { classes := classes, interned := interned.toArray }
  heap := heap
  slotsUsed := slotsUsed
  threads := #[{ frames := .invoking theMethod args0 :: below }]
def below0 : List Frame := [.native { method := ⟨0, 0⟩, args := #[] }]
def about1 : State := aboutOver below0
def p0 : Program := .bare "" "" ""
def e0 : Env := launch0.env 0 0 0
theorem w_frames : about1.frames = Frame.invoking theMethod args0 :: below0 := rfl
set_option maxRecDepth 65536 in
theorem w_args : argsFit about1.vm theMethod args0 = true := by decide +kernel
set_option maxRecDepth 65536 in
theorem w_heap : heapFits about1 = true := by decide +kernel
set_option maxRecDepth 65536 in
theorem w_runnable : about1.curStatus? = some .runnable := by decide +kernel
set_option maxRecDepth 65536 in
theorem w_alone : about1.alone = true := by decide +kernel
set_option maxRecDepth 65536 in
theorem w_named : about1.methodNamed? x = some theMethod := by decide +kernel
set_option maxRecDepth 65536 in
theorem w_hears : about1.hears theMethod below0 = true := by decide +kernel
set_option maxRecDepth 65536 in
theorem w_ripe : about1.ripe theMethod args0 below0 = true := by decide +kernel
theorem w_running : about1.status = .running := rfl
set_option maxRecDepth 65536 in
theorem w_room : about1.hasRoom e0.platform room_1 = true :=
  launch0.hasRoom_least _ room_1 (by decide +kernel) (by decide +kernel) (by decide +kernel) (by decide +kernel) (by decide +kernel) (by decide +kernel)
theorem allAtoms_all (ts : List Jvm.Cond) (a : Array Jvm.Value) (st : Jvm.State) : (allAtoms ts).before a st = ts.all (fun c => c.before a st) := by
  induction ts with
  | nil => rfl
  | cons c t ih =>
    show (Jvm.Cond.and c (allAtoms t)).before a st = _
    rw [Jvm.Cond.before_and, ih, List.all_cons]
def words1 : List Jvm.Cond := Jvm.Cond.code x code maxLocals ret :: tables_1
/-- a 'code' word, met by the world's own term for the bytes: nothing is compared byte by byte -/
theorem code_word {y : MethodName} {bytes : ByteArray} {mx : Nat} {rt : Option FieldType} {a : Array Value} {s : State} {m : MethodId} {meth : Method} {c : Code} (h1 : s.methodNamed? y = some m) (h2 : s.vm.method? m = some meth) (h3 : meth.code = some c) (h4 : c.code = bytes)
    (h5 : (c.maxLocals == mx && c.exceptionTable.isEmpty && decide (c.maxStack ≤ mostOperands) && decide (meth.sig.returnType = rt) && !meth.locks && decide (parseMethodDescriptor y.desc = some meth.sig)) = true) : (Jvm.Cond.code y bytes mx rt).before a s = true := by
  simp only [Bool.and_eq_true, beq_iff_eq, Bool.not_eq_true', decide_eq_true_eq] at h5
  obtain ⟨⟨⟨⟨⟨g1, g2⟩, g3⟩, g4⟩, g5⟩, g6⟩ := h5
  simp [Cond.before, Cond.holds, Cond.value, h1, h2, h3, h4, g1, g2, g3, g4, g5, g6]
def isCode : Jvm.Cond → Bool
  | .code _ _ _ _ => true
  | _ => false
theorem all_split {L : List Jvm.Cond} {P : Jvm.Cond → Bool} (h1 : L.all (fun c => isCode c || P c) = true) (h2 : ∀ c ∈ L.filter isCode, P c = true) : L.all P = true := by
  refine List.all_eq_true.mpr fun c hc => ?_
  have h := List.all_eq_true.mp h1 c hc
  rcases Bool.eq_false_or_eq_true (isCode c) with hi | hi
  · exact h2 c (List.mem_filter.mpr ⟨hc, hi⟩)
  · simpa [hi] using h
set_option maxRecDepth 65536 in
theorem w_c0 : (Jvm.Cond.code x code maxLocals ret).before args0 about1 = true := code_word (m := ⟨1, 3⟩) (meth := k1m3) (c := k1c3) (by decide +kernel) rfl rfl rfl (by decide +kernel)
set_option maxRecDepth 65536 in
theorem w_c1 : (Jvm.Cond.code ({ cls := "com/example/sigyn/sigyn/sip/SipScannerAtEndPinLaw", name := "draw", desc := "(I)C" } : Jvm.MethodName) method_2_code (2 : Nat) (Option.some Jvm.ClassFile.FieldType.char)).before args0 about1 = true := code_word (m := ⟨1, 1⟩) (meth := k1m1) (c := k1c1) (by decide +kernel) rfl rfl rfl (by decide +kernel)
set_option maxRecDepth 65536 in
theorem w_c2 : (Jvm.Cond.code ({ cls := "java/lang/String", name := "<init>", desc := "([C)V" } : Jvm.MethodName) jdk_42_method_3_code (2 : Nat) (Option.none : Option Jvm.ClassFile.FieldType)).before args0 about1 = true := code_word (m := ⟨7, 1⟩) (meth := k7m1) (c := k7c1) (by decide +kernel) rfl rfl rfl (by decide +kernel)
set_option maxRecDepth 65536 in
theorem w_c3 : (Jvm.Cond.code ({ cls := "java/lang/String", name := "<init>", desc := "([CIILjava/lang/Void;)V" } : Jvm.MethodName) jdk_42_method_149_code (6 : Nat) (Option.none : Option Jvm.ClassFile.FieldType)).before args0 about1 = true := code_word (m := ⟨7, 4⟩) (meth := k7m4) (c := k7c4) (by decide +kernel) rfl rfl rfl (by decide +kernel)
set_option maxRecDepth 65536 in
theorem w_c4 : (Jvm.Cond.code ({ cls := "java/lang/Object", name := "<init>", desc := "()V" } : Jvm.MethodName) object_method_1_code (1 : Nat) (Option.none : Option Jvm.ClassFile.FieldType)).before args0 about1 = true := code_word (m := ⟨0, 0⟩) (meth := k0m0) (c := k0c0) (by decide +kernel) rfl rfl rfl (by decide +kernel)
set_option maxRecDepth 65536 in
theorem w_c5 : (Jvm.Cond.code ({ cls := "com/example/sigyn/sigyn/sip/SipScanner", name := "<init>", desc := "(Ljava/lang/String;)V" } : Jvm.MethodName) prog_48_method_1_code (2 : Nat) (Option.none : Option Jvm.ClassFile.FieldType)).before args0 about1 = true := code_word (m := ⟨8, 0⟩) (meth := k8m0) (c := k8c0) (by decide +kernel) rfl rfl rfl (by decide +kernel)
set_option maxRecDepth 65536 in
theorem w_c6 : (Jvm.Cond.code ({ cls := "com/example/sigyn/sigyn/sip/SipScanner", name := "atEnd", desc := "()Z" } : Jvm.MethodName) prog_48_method_2_code (1 : Nat) (Option.some Jvm.ClassFile.FieldType.boolean)).before args0 about1 = true := code_word (m := ⟨8, 1⟩) (meth := k8m1) (c := k8c1) (by decide +kernel) rfl rfl rfl (by decide +kernel)
set_option maxRecDepth 65536 in
theorem w_c7 : (Jvm.Cond.code ({ cls := "java/lang/String", name := "length", desc := "()I" } : Jvm.MethodName) jdk_42_method_54_code (1 : Nat) (Option.some Jvm.ClassFile.FieldType.int)).before args0 about1 = true := code_word (m := ⟨7, 2⟩) (meth := k7m2) (c := k7c2) (by decide +kernel) rfl rfl rfl (by decide +kernel)
set_option maxRecDepth 65536 in
theorem w_c8 : (Jvm.Cond.code ({ cls := "java/lang/String", name := "coder", desc := "()B" } : Jvm.MethodName) jdk_42_method_152_code (1 : Nat) (Option.some Jvm.ClassFile.FieldType.byte)).before args0 about1 = true := code_word (m := ⟨7, 5⟩) (meth := k7m5) (c := k7c5) (by decide +kernel) rfl rfl rfl (by decide +kernel)
set_option maxRecDepth 65536 in
theorem w_c9 : (Jvm.Cond.code ({ cls := "com/example/sigyn/sigyn/sip/SipScanner", name := "skipSpace", desc := "()I" } : Jvm.MethodName) prog_48_method_3_code (2 : Nat) (Option.some Jvm.ClassFile.FieldType.int)).before args0 about1 = true := code_word (m := ⟨8, 2⟩) (meth := k8m2) (c := k8c2) (by decide +kernel) rfl rfl rfl (by decide +kernel)
set_option maxRecDepth 65536 in
theorem w_c10 : (Jvm.Cond.code ({ cls := "java/lang/StringUTF16", name := "compress", desc := "([CII)[B" } : Jvm.MethodName) jdk_52_method_16_code (6 : Nat) (Option.some (Jvm.ClassFile.FieldType.array Jvm.ClassFile.FieldType.byte))).before args0 about1 = true := code_word (m := ⟨9, 2⟩) (meth := k9m2) (c := k9c2) (by decide +kernel) rfl rfl rfl (by decide +kernel)
set_option maxRecDepth 65536 in
theorem w_c11 : (Jvm.Cond.code ({ cls := "java/lang/StringUTF16", name := "compress", desc := "([CI[BII)I" } : Jvm.MethodName) jdk_52_method_21_code (7 : Nat) (Option.some Jvm.ClassFile.FieldType.int)).before args0 about1 = true := code_word (m := ⟨9, 3⟩) (meth := k9m3) (c := k9c3) (by decide +kernel) rfl rfl rfl (by decide +kernel)
set_option maxRecDepth 65536 in
theorem w_c12 : (Jvm.Cond.code ({ cls := "java/lang/StringUTF16", name := "coderFromArrayLen", desc := "([BI)B" } : Jvm.MethodName) jdk_52_method_15_code (2 : Nat) (Option.some Jvm.ClassFile.FieldType.byte)).before args0 about1 = true := code_word (m := ⟨9, 1⟩) (meth := k9m1) (c := k9c1) (by decide +kernel) rfl rfl rfl (by decide +kernel)
set_option maxRecDepth 65536 in
theorem w_c13 : (Jvm.Cond.code ({ cls := "java/lang/String", name := "charAt", desc := "(I)C" } : Jvm.MethodName) jdk_42_method_56_code (2 : Nat) (Option.some Jvm.ClassFile.FieldType.char)).before args0 about1 = true := code_word (m := ⟨7, 3⟩) (meth := k7m3) (c := k7c3) (by decide +kernel) rfl rfl rfl (by decide +kernel)
set_option maxRecDepth 65536 in
theorem w_c14 : (Jvm.Cond.code ({ cls := "java/lang/String", name := "isLatin1", desc := "()Z" } : Jvm.MethodName) jdk_42_method_154_code (1 : Nat) (Option.some Jvm.ClassFile.FieldType.boolean)).before args0 about1 = true := code_word (m := ⟨7, 6⟩) (meth := k7m6) (c := k7c6) (by decide +kernel) rfl rfl rfl (by decide +kernel)
set_option maxRecDepth 65536 in
theorem w_c15 : (Jvm.Cond.code ({ cls := "java/lang/StringLatin1", name := "charAt", desc := "([BI)C" } : Jvm.MethodName) jdk_43_method_2_code (2 : Nat) (Option.some Jvm.ClassFile.FieldType.char)).before args0 about1 = true := code_word (m := ⟨10, 1⟩) (meth := k10m1) (c := k10c1) (by decide +kernel) rfl rfl rfl (by decide +kernel)
set_option maxRecDepth 65536 in
theorem w_c16 : (Jvm.Cond.code ({ cls := "java/lang/String", name := "checkIndex", desc := "(II)V" } : Jvm.MethodName) jdk_42_method_155_code (2 : Nat) (Option.none : Option Jvm.ClassFile.FieldType)).before args0 about1 = true := code_word (m := ⟨7, 7⟩) (meth := k7m7) (c := k7c7) (by decide +kernel) rfl rfl rfl (by decide +kernel)
set_option maxRecDepth 65536 in
theorem w_c17 : (Jvm.Cond.code ({ cls := "jdk/internal/util/Preconditions", name := "checkIndex", desc := "(IILjava/util/function/BiFunction;)I" } : Jvm.MethodName) jdk_41_method_11_code (3 : Nat) (Option.some Jvm.ClassFile.FieldType.int)).before args0 about1 = true := code_word (m := ⟨11, 1⟩) (meth := k11m1) (c := k11c1) (by decide +kernel) rfl rfl rfl (by decide +kernel)
set_option maxRecDepth 65536 in
theorem w_c18 : (Jvm.Cond.code ({ cls := "com/example/sigyn/sigyn/sip/SipScanner", name := "isSpace", desc := "(C)Z" } : Jvm.MethodName) prog_48_method_13_code (1 : Nat) (Option.some Jvm.ClassFile.FieldType.boolean)).before args0 about1 = true := code_word (m := ⟨8, 3⟩) (meth := k8m3) (c := k8c3) (by decide +kernel) rfl rfl rfl (by decide +kernel)
set_option maxRecDepth 65536 in
theorem w_c19 : (Jvm.Cond.code ({ cls := "com/example/sigyn/sigyn/sip/SipScannerAtEndPinLaw", name := "sp", desc := "(C)Z" } : Jvm.MethodName) method_3_code (1 : Nat) (Option.some Jvm.ClassFile.FieldType.boolean)).before args0 about1 = true := code_word (m := ⟨1, 2⟩) (meth := k1m2) (c := k1c2) (by decide +kernel) rfl rfl rfl (by decide +kernel)
def codes1 : List Jvm.Cond := [Jvm.Cond.code x code maxLocals ret, Jvm.Cond.code ({ cls := "com/example/sigyn/sigyn/sip/SipScannerAtEndPinLaw", name := "draw", desc := "(I)C" } : Jvm.MethodName) method_2_code (2 : Nat) (Option.some Jvm.ClassFile.FieldType.char), Jvm.Cond.code ({ cls := "java/lang/String", name := "<init>", desc := "([C)V" } : Jvm.MethodName) jdk_42_method_3_code (2 : Nat) (Option.none : Option Jvm.ClassFile.FieldType), Jvm.Cond.code ({ cls := "java/lang/String", name := "<init>", desc := "([CIILjava/lang/Void;)V" } : Jvm.MethodName) jdk_42_method_149_code (6 : Nat) (Option.none : Option Jvm.ClassFile.FieldType), Jvm.Cond.code ({ cls := "java/lang/Object", name := "<init>", desc := "()V" } : Jvm.MethodName) object_method_1_code (1 : Nat) (Option.none : Option Jvm.ClassFile.FieldType), Jvm.Cond.code ({ cls := "com/example/sigyn/sigyn/sip/SipScanner", name := "<init>", desc := "(Ljava/lang/String;)V" } : Jvm.MethodName) prog_48_method_1_code (2 : Nat) (Option.none : Option Jvm.ClassFile.FieldType), Jvm.Cond.code ({ cls := "com/example/sigyn/sigyn/sip/SipScanner", name := "atEnd", desc := "()Z" } : Jvm.MethodName) prog_48_method_2_code (1 : Nat) (Option.some Jvm.ClassFile.FieldType.boolean), Jvm.Cond.code ({ cls := "java/lang/String", name := "length", desc := "()I" } : Jvm.MethodName) jdk_42_method_54_code (1 : Nat) (Option.some Jvm.ClassFile.FieldType.int), Jvm.Cond.code ({ cls := "java/lang/String", name := "coder", desc := "()B" } : Jvm.MethodName) jdk_42_method_152_code (1 : Nat) (Option.some Jvm.ClassFile.FieldType.byte), Jvm.Cond.code ({ cls := "com/example/sigyn/sigyn/sip/SipScanner", name := "skipSpace", desc := "()I" } : Jvm.MethodName) prog_48_method_3_code (2 : Nat) (Option.some Jvm.ClassFile.FieldType.int), Jvm.Cond.code ({ cls := "java/lang/StringUTF16", name := "compress", desc := "([CII)[B" } : Jvm.MethodName) jdk_52_method_16_code (6 : Nat) (Option.some (Jvm.ClassFile.FieldType.array Jvm.ClassFile.FieldType.byte)), Jvm.Cond.code ({ cls := "java/lang/StringUTF16", name := "compress", desc := "([CI[BII)I" } : Jvm.MethodName) jdk_52_method_21_code (7 : Nat) (Option.some Jvm.ClassFile.FieldType.int), Jvm.Cond.code ({ cls := "java/lang/StringUTF16", name := "coderFromArrayLen", desc := "([BI)B" } : Jvm.MethodName) jdk_52_method_15_code (2 : Nat) (Option.some Jvm.ClassFile.FieldType.byte), Jvm.Cond.code ({ cls := "java/lang/String", name := "charAt", desc := "(I)C" } : Jvm.MethodName) jdk_42_method_56_code (2 : Nat) (Option.some Jvm.ClassFile.FieldType.char), Jvm.Cond.code ({ cls := "java/lang/String", name := "isLatin1", desc := "()Z" } : Jvm.MethodName) jdk_42_method_154_code (1 : Nat) (Option.some Jvm.ClassFile.FieldType.boolean), Jvm.Cond.code ({ cls := "java/lang/StringLatin1", name := "charAt", desc := "([BI)C" } : Jvm.MethodName) jdk_43_method_2_code (2 : Nat) (Option.some Jvm.ClassFile.FieldType.char), Jvm.Cond.code ({ cls := "java/lang/String", name := "checkIndex", desc := "(II)V" } : Jvm.MethodName) jdk_42_method_155_code (2 : Nat) (Option.none : Option Jvm.ClassFile.FieldType), Jvm.Cond.code ({ cls := "jdk/internal/util/Preconditions", name := "checkIndex", desc := "(IILjava/util/function/BiFunction;)I" } : Jvm.MethodName) jdk_41_method_11_code (3 : Nat) (Option.some Jvm.ClassFile.FieldType.int), Jvm.Cond.code ({ cls := "com/example/sigyn/sigyn/sip/SipScanner", name := "isSpace", desc := "(C)Z" } : Jvm.MethodName) prog_48_method_13_code (1 : Nat) (Option.some Jvm.ClassFile.FieldType.boolean), Jvm.Cond.code ({ cls := "com/example/sigyn/sigyn/sip/SipScannerAtEndPinLaw", name := "sp", desc := "(C)Z" } : Jvm.MethodName) method_3_code (1 : Nat) (Option.some Jvm.ClassFile.FieldType.boolean)]
set_option maxRecDepth 65536 in
theorem codes_eq : words1.filter isCode = codes1 := rfl
theorem w_codes : ∀ c ∈ words1.filter isCode, c.before args0 about1 = true := by
  rw [codes_eq]
  intro c hc
  simp only [codes1, List.mem_cons, List.not_mem_nil, or_false] at hc
  rcases hc with rfl | rfl | rfl | rfl | rfl | rfl | rfl | rfl | rfl | rfl | rfl | rfl | rfl | rfl | rfl | rfl | rfl | rfl | rfl | rfl
  · exact w_c0
  · exact w_c1
  · exact w_c2
  · exact w_c3
  · exact w_c4
  · exact w_c5
  · exact w_c6
  · exact w_c7
  · exact w_c8
  · exact w_c9
  · exact w_c10
  · exact w_c11
  · exact w_c12
  · exact w_c13
  · exact w_c14
  · exact w_c15
  · exact w_c16
  · exact w_c17
  · exact w_c18
  · exact w_c19
set_option maxRecDepth 65536 in
theorem w_t1 : (words1.take 24).all (fun c => isCode c || c.before args0 about1) = true := by decide +kernel
set_option maxRecDepth 65536 in
theorem w_t2 : ((words1.drop 24).take 24).all (fun c => isCode c || c.before args0 about1) = true := by decide +kernel
set_option maxRecDepth 65536 in
theorem w_t3 : (((words1.drop 24).drop 24).take 24).all (fun c => isCode c || c.before args0 about1) = true := by decide +kernel
set_option maxRecDepth 65536 in
theorem w_t4 : ((((words1.drop 24).drop 24).drop 24).take 24).all (fun c => isCode c || c.before args0 about1) = true := by decide +kernel
set_option maxRecDepth 65536 in
theorem w_t5 : ((((words1.drop 24).drop 24).drop 24).drop 24).all (fun c => isCode c || c.before args0 about1) = true := by decide +kernel
theorem w_tables : (allAtoms (Jvm.Cond.code x code maxLocals ret :: tables_1)).before args0 about1 = true := by
  rw [allAtoms_all]
  show words1.all (fun c => c.before args0 about1) = true
  refine all_split ?_ w_codes
  rw [← List.take_append_drop 24 words1, List.all_append, w_t1, ← List.take_append_drop 24 (words1.drop 24), List.all_append, w_t2, ← List.take_append_drop 24 ((words1.drop 24).drop 24), List.all_append, w_t3, ← List.take_append_drop 24 (((words1.drop 24).drop 24).drop 24), List.all_append, w_t4, w_t5]
  rfl
set_option maxRecDepth 65536 in
theorem w_rest : rest_1_c.before args0 about1 = true := by decide +kernel
set_option maxRecDepth 65536 in
theorem w_case : (Jvm.Cond.and given_1 narrow_1).before args0 about1 = true := by decide +kernel
set_option maxRecDepth 65536 in
theorem w_consts : constsHeld consts_1 about1 := Jvm.Lit.constsHeldB_iff.mp (by decide +kernel)
theorem w_applies : (headSpec (Jvm.Cond.code x code maxLocals ret :: tables_1) room_1).applies x e0.platform about1 = true :=
  (Spec.applies_iff w_frames).mpr ⟨w_running, w_runnable, w_alone, w_named, w_hears, w_ripe, w_room, w_tables⟩
theorem atStart : AtStart classFile x code maxLocals ret World_1 tables_1 room_1 Calls_1 rest_1 Pre_1 launch0 p0 e0 about1 theMethod args0 below0 :=
  ⟨lists_1, trivial, launch0.admits_env _ _ _, launch0.least_env, fairChoices_fair.cas, fairChoices_fair.clock, w_frames, w_args, w_heap, w_applies, ⟨w_consts, trivial⟩, w_rest, w_case⟩
end start1
theorem witness_1 : WitnessClaimed_1 := ⟨start1.p0, start1.e0, start1.about1, start1.theMethod, start1.args0, start1.below0, start1.atStart⟩
end Jvm.Pilot.@@N@@
