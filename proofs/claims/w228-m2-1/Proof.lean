import JvmDerived
import JvmDerived.Pilot.@@N@@Statement
import JvmDerived.Pilot.@@N@@Code
set_option linter.unusedVariables false
set_option linter.unusedSimpArgs false
namespace Jvm.Own
open Jvm Jvm.ClassFile Sem Op Lib Jvm.Free Jvm.Stand Jvm.LawKit Jvm.RoadKit Bundle
section Base
variable {p : Program} {l : Launch} {e : Env} {R : Room} {s : State} {m : MethodId} {args : Array Value} {below : List Frame} {meth : Method} {c : Code} {T : State} {locs : List Loc} {cells slots : Nat} {Z : State} {a0 : Array Value} {h : Heap}
/-- from t the run ends, and its end is as Qf says -/
def Go (p : Program) (e : Env) (below : List Frame) (Qf : Outcome → State → Prop) (t : State) : Prop :=
  ∃ s₂ o, Steps p.tables e below t s₂ ∧ s₂.status = .running ∧ Ended s₂ below o ∧ Qf o s₂
theorem Go.step {Qf : Outcome → State → Prop} {t t' : State} (k : ∀ u, Steps p.tables e below t' u → Steps p.tables e below t u) (h : Go p e below Qf t') : Go p e below Qf t := by
  obtain ⟨s₂, o, h1, h2⟩ := h
  exact ⟨s₂, o, k _ h1, h2⟩
theorem own_join {Qf : Outcome → State → Prop} {t t' : State} (h : Go p e below Qf t → Go p e below Qf t') (k : Go p e below Qf t) : Go p e below Qf t' := h k
theorem own_joinA {α : Type} {P : α → Prop} {Qf : Outcome → State → Prop} {t : α → State} {t' : State} (h : (∀ v, P v → Go p e below Qf (t v)) → Go p e below Qf t') (k : ∀ v, P v → Go p e below Qf (t v)) : Go p e below Qf t' := h k
theorem own_top {Qf : Outcome → State → Prop} {pc : Nat} {Ls : Array Slot} {rest : List Value} {a b : Value} (h : a = b) (k : Go p e below Qf (T.setTop (mkF m pc Ls (b :: rest)))) : Go p e below Qf (T.setTop (mkF m pc Ls (a :: rest))) := by subst h; exact k
/-- the end of a narrow walk -/
def QN (s : State) (rm : Room) (Q : Option Value → Heap → List Loc → Prop) (o : Outcome) (U' : State) : Prop := ∃ v L, o = .returned v ∧ Q v U'.heap L ∧ FrameEnd s o U' L rm.cells rm.slots
abbrev CN (l : Launch) (Z : State) (y : MethodName) (ws : List Jvm.Cond) (rm : Room) (as : Array Value) (h0 : Heap) (Q : Option Value → Heap → List Loc → Prop) : Prop :=
  MetFree l y (head1 ws rm) (fun a U => a = as ∧ Z.Warmed39 U.vm ∧ U.heap = h0) (fun _ _ _ _ _ => True) (fun _ U o U' => ∃ v L, o = .returned v ∧ Q v U'.heap L ∧ FrameEnd U o U' L rm.cells rm.slots)
theorem CN.of {y : MethodName} {bytes : ByteArray} {maxL : Nat} {ret : Option FieldType} {ws : List Jvm.Cond} {rm : Room} {as : Array Value} {h0 : Heap} {Q : Option Value → Heap → List Loc → Prop} {L0 : Array Slot}
    (hp : plainFor y = true) (ef : ∀ m, entryFrame m as maxL = mkF m 0 L0 [])
    (body : ∀ (p : Program) (e : Env) (s : State) (m : MethodId) (below : List Frame) (meth : Method) (c : Code) (s₁ : State), p.tables.exec = Jvm.exec → c.code = bytes → c.maxLocals = maxL → meth.sig.returnType = ret → meth.locks = false → Z.Warmed39 s.vm → s.vm.findClass y.cls = some m.cls → meth.name = y.name → Stand p l e rm s m as below meth c s₁ [] 0 0 → s₁.heap = h0 → Go p e below (QN s rm Q) (s₁.setTop (mkF m 0 L0 []))) :
    CN l Z y (Jvm.Cond.code y bytes maxL ret :: ws) rm as h0 Q := by
  refine MetFree.of_bodySF hp hisR ?_
  intro p e s m args below meth c s₁ Bd hml0 hP hK
  obtain ⟨rfl, hZ, hh⟩ := hP
  have q := body p e s m below meth c s₁ Bd.exec Bd.bytes hml0 Bd.returns Bd.notSynchronized hZ (findClass_of_methodNamed Bd.named) (name_of_methodNamed Bd.named Bd.method).1 (Stand.of_body Bd) (by rw [← hh, Bd.state]; rfl)
  rw [← ef m] at q
  exact q
theorem Go.ret {Q : Option Value → Heap → List Loc → Prop} {rm : Room} {t : State} (X : Stand p l e R s m args below meth c T locs cells slots) (hlk : meth.locks = false) (v : Option Value) (hv : meth.sig.returnType = none → v = none) (hc : cells ≤ rm.cells) (hs : slots ≤ rm.slots) (q : Q v T.heap locs)
    (st : ∀ fs, (∀ (f : JFrame) (acts : List Action), f.method = m → f.locked = none → f.entered = [] → (doReturn e (T.setTop f) acts v).1 = T.setFrames fs) → Steps p.tables e below t (T.setFrames fs)) : Go p e below (QN s rm Q) t := by
  obtain ⟨fs, hr, hrun, hended, hW, hsame⟩ := X.leave (v := v) hv hlk
  exact ⟨_, _, st fs hr, hrun, hended, v, locs, rfl, q, ⟨v, rfl⟩, hW, hsame.mono hc hs⟩
/-- a value comes back -/
theorem Go.retV {Q : Option Value → Heap → List Loc → Prop} {rm : Room} (X : Stand p l e R s m args below meth c T locs cells slots) (hx : p.tables.exec = Jvm.exec) (hlk : meth.locks = false) {pc : Nat} {Ls : Array Slot} {w : Value} {t : FieldType} {i : Instr} {rest : List Value} (hret : meth.sig.returnType = some t) (hn : narrow t w = w)
    (hi : (i = .ireturn ∧ (t = .int ∨ t = .boolean ∨ t = .byte ∨ t = .char ∨ t = .short) ∧ ∃ z, w = .int z) ∨ (i = .lreturn ∧ t = .long ∧ ∃ z, w = .long z) ∨ (i = .dreturn ∧ t = .double ∧ ∃ z, w = .double z) ∨ (i = .freturn ∧ t = .float ∧ ∃ z, w = .float z) ∨ (i = .areturn ∧ t.isReference = true ∧ w.isRef = true))
    (hd : decode c.code pc = .ok (i, 1)) (hc : cells ≤ rm.cells) (hs : slots ≤ rm.slots) (q : Q (some w) T.heap locs) : Go p e below (QN s rm Q) (T.setTop (mkF m pc Ls (w :: rest))) :=
  Go.ret X hlk (some w) (fun h => by rw [hret] at h; cases h) hc hs q fun fs hr => retOut X hx hret hn hi hd hr
/-- nothing comes back -/
theorem Go.ret0 {Q : Option Value → Heap → List Loc → Prop} {rm : Room} (X : Stand p l e R s m args below meth c T locs cells slots) (hx : p.tables.exec = Jvm.exec) (hlk : meth.locks = false) {pc : Nat} {Ls : Array Slot} (hret : meth.sig.returnType = none)
    (hd : decode c.code pc = .ok (.return_, 1)) (hc : cells ≤ rm.cells) (hs : slots ≤ rm.slots) (q : Q none T.heap locs) : Go p e below (QN s rm Q) (T.setTop (mkF m pc Ls [])) :=
  Go.ret X hlk none (fun _ => rfl) hc hs q fun fs hr => X.returnOut hx hret hd hr
/-- what pays a call -/
abbrev Pay (l : Launch) (R : Room) (p : Program) (e : Env) (below : List Frame) (s : State) (args : Array Value) (y : MethodName) (W : Nat) (as : Array Value) (h : Heap) (kc ks : Nat) (QQ : Option Value → Heap → List Loc → Prop) : Prop :=
  Back l R p e below s args y 3 W (fun P a => a = as ∧ P.U.heap = h ∧ P.cells + kc ≤ R.cells ∧ P.slots + ks ≤ R.slots) (fun P _ v B => ∃ L, QQ v B.U.heap L ∧ B.locs = P.locs ++ L ∧ B.cells = P.cells + kc ∧ B.slots = P.slots + ks)
theorem goS (X : Stand p l e R s m args below meth c T locs cells slots) (hx : p.tables.exec = Jvm.exec) (hZ : Z.Warmed39 s.vm) {own : String} {index : Nat} {y : MethodName} {bytes : ByteArray} {maxL : Nat} {ret : Option FieldType} (hown : s.vm.findClass own = some m.cls)
    (w1 : (Jvm.Cond.methodLink own index y).before a0 Z = true) (w2 : (Jvm.Cond.static y).before a0 Z = true) (w3 : (Jvm.Cond.initialized y.cls).before a0 Z = true) (w4 : (Jvm.Cond.code y bytes maxL ret).before a0 Z = true) (hy : y.cls ≠ "java/lang/invoke/MethodHandle" ∧ y.cls ≠ "java/lang/invoke/VarHandle")
    {W kc ks : Nat} {as : Array Value} {QQ : Option Value → Heap → List Loc → Prop} (K : Pay l R p e below s args y W as h kc ks QQ) (eT : T.heap = h) {g : JFrame} (hg : g.method = m) (hsize : g.locals.size = c.maxLocals) {argsL rest : List Value} (has : argsL.toArray = as)
    (hlen : ∀ sig, parseMethodDescriptor y.desc = some sig → argsL.length = sig.parameters.length) (hstack : g.stack = argsL.reverse ++ rest) (hW : 2 * g.monitorRoom + (rest.map fun v => v.category).sum ≤ W) (hd : decode c.code g.pc = .ok (.invokestatic index, 3)) (hc : cells + kc ≤ R.cells) (hs : slots + ks ≤ R.slots) :
    ∃ v T' L, Stand p l e R s m args below meth c T' (locs ++ L) (cells + kc) (slots + ks) ∧ QQ v T'.heap L ∧ ∀ u, Steps p.tables e below (T'.setTop { g with pc := g.pc + 3, stack := v.toList ++ rest }) u → Steps p.tables e below (T.setTop g) u := by
  obtain ⟨v, _, ⟨T', L', k', n'⟩, -, X', ⟨L, hQ, l1, y1, z1⟩, st⟩ := Jvm.LawKit.callS X hx hown (mvT hZ w1) (mvT hZ w2) (mvT hZ w3) (mvT hZ w4) hy K hg hsize hlen hstack hW hd (fun _ _ => ⟨has, eT, hc, hs⟩)
  try dsimp only [Pt.U, Pt.locs, Pt.cells, Pt.slots] at X' l1 y1 z1 st hQ
  subst l1 y1 z1
  exact ⟨v, T', L, X', hQ, st⟩
theorem goC (X : Stand p l e R s m args below meth c T locs cells slots) (hx : p.tables.exec = Jvm.exec) (hZ : Z.Warmed39 s.vm) {own : String} {index : Nat} {y : MethodName} {bytes : ByteArray} {maxL : Nat} (hown : s.vm.findClass own = some m.cls)
    (hy1 : y.name = "<init>") (w1 : (Jvm.Cond.methodLink own index y).before a0 Z = true) (w2 : (Jvm.Cond.instanceMethod y).before a0 Z = true) (w4 : (Jvm.Cond.code y bytes maxL none).before a0 Z = true) (hy : y.cls ≠ "java/lang/invoke/MethodHandle" ∧ y.cls ≠ "java/lang/invoke/VarHandle")
    {W kc ks : Nat} {as : Array Value} {QQ : Option Value → Heap → List Loc → Prop} (K : Pay l R p e below s args y W as h kc ks QQ) (eT : T.heap = h) {g : JFrame} (hg : g.method = m) (hsize : g.locals.size = c.maxLocals) {a : Addr} {argsL rest : List Value} (has : (.ref a :: argsL).toArray = as)
    (hlen : ∀ sig, parseMethodDescriptor y.desc = some sig → argsL.length = sig.parameters.length) (hstack : g.stack = argsL.reverse ++ .ref a :: rest) (hW : 2 * g.monitorRoom + (rest.map fun v => v.category).sum ≤ W) (hd : decode c.code g.pc = .ok (.invokespecial index, 3)) (hc : cells + kc ≤ R.cells) (hs : slots + ks ≤ R.slots) :
    ∃ v T' L, Stand p l e R s m args below meth c T' (locs ++ L) (cells + kc) (slots + ks) ∧ QQ v T'.heap L ∧ ∀ u, Steps p.tables e below (T'.setTop { g with pc := g.pc + 3, stack := v.toList ++ rest }) u → Steps p.tables e below (T.setTop g) u := by
  obtain ⟨v, _, ⟨T', L', k', n'⟩, -, X', ⟨L, hQ, l1, y1, z1⟩, st⟩ := X.specialBack hx hy1 hown (mvT hZ w1) (mvT hZ w2) (mvT hZ w4) hy K hg hsize (Steps.refl _) hlen hstack hW hd (fun _ _ => ⟨has, eT, hc, hs⟩)
  try dsimp only [Pt.U, Pt.locs, Pt.cells, Pt.slots] at X' l1 y1 z1 st hQ
  subst l1 y1 z1
  exact ⟨v, T', L, X', hQ, fun u k => st.trans k⟩
theorem goV (X : Stand p l e R s m args below meth c T locs cells slots) (hx : p.tables.exec = Jvm.exec) (hZ : Z.Warmed39 s.vm) {own C : String} {index : Nat} {y z : MethodName} (hown : s.vm.findClass own = some m.cls)
    (w1 : (Jvm.Cond.methodLink own index y).before a0 Z = true) (w2 : (Jvm.Cond.declares y).before a0 Z = true) (hnf : NotFace s y) (w3 : (Jvm.Cond.selects C y z).before a0 Z = true) (w4 : (Jvm.Cond.instanceMethod z).before a0 Z = true) (hy : y.cls ≠ "java/lang/invoke/MethodHandle" ∧ y.cls ≠ "java/lang/invoke/VarHandle")
    {W kc ks : Nat} {as : Array Value} {QQ : Option Value → Heap → List Loc → Prop} (K : Pay l R p e below s args z W as h kc ks QQ) (eT : T.heap = h) {a : Addr} (E : Exa Z h a C) {g : JFrame} (hg : g.method = m) (hsize : g.locals.size = c.maxLocals) {argsL rest : List Value} (has : (.ref a :: argsL).toArray = as)
    (hlen : ∀ sig, parseMethodDescriptor y.desc = some sig → argsL.length = sig.parameters.length) (hstack : g.stack = argsL.reverse ++ .ref a :: rest) (hW : 2 * g.monitorRoom + (rest.map fun v => v.category).sum ≤ W) (hd : decode c.code g.pc = .ok (.invokevirtual index, 3)) (hc : cells + kc ≤ R.cells) (hs : slots + ks ≤ R.slots) :
    ∃ v T' L, Stand p l e R s m args below meth c T' (locs ++ L) (cells + kc) (slots + ks) ∧ QQ v T'.heap L ∧ ∀ u, Steps p.tables e below (T'.setTop { g with pc := g.pc + 3, stack := v.toList ++ rest }) u → Steps p.tables e below (T.setTop g) u := by
  obtain ⟨cB, kB, q1, q2, q3⟩ := isOf hZ eT E
  obtain ⟨v, _, ⟨T', L', k', n'⟩, -, X', ⟨L, hQ, l1, y1, z1⟩, st⟩ := X.virtualBack hx hown (mvT hZ w1) (mvT hZ w2) hnf (mvT hZ w3) (mvT hZ w4) hy K q1 q3 hg hsize (Steps.refl _) hlen hstack hW hd (fun _ _ => ⟨has, eT, hc, hs⟩)
  try dsimp only [Pt.U, Pt.locs, Pt.cells, Pt.slots] at X' l1 y1 z1 st hQ
  subst l1 y1 z1
  exact ⟨v, T', L, X', hQ, fun u k => st.trans k⟩
/-- .. whose named class does not declare it -/
theorem goU (X : Stand p l e R s m args below meth c T locs cells slots) (hx : p.tables.exec = Jvm.exec) (hZ : Z.Warmed39 s.vm) {own C owner : String} {index : Nat} {y z : MethodName} (hown : s.vm.findClass own = some m.cls)
    (w1 : (Jvm.Cond.methodLink own index y).before a0 Z = true) (w5 : (Jvm.Cond.sameMethod y.cls owner y.name y.desc).before a0 Z = true) (w2 : (Jvm.Cond.declares ⟨owner, y.name, y.desc⟩).before a0 Z = true) (w3 : (Jvm.Cond.selects C y z).before a0 Z = true) (w4 : (Jvm.Cond.instanceMethod z).before a0 Z = true) (hy : owner ≠ "java/lang/invoke/MethodHandle" ∧ owner ≠ "java/lang/invoke/VarHandle")
    {W kc ks : Nat} {as : Array Value} {QQ : Option Value → Heap → List Loc → Prop} (K : Pay l R p e below s args z W as h kc ks QQ) (eT : T.heap = h) {a : Addr} (E : Exa Z h a C) {g : JFrame} (hg : g.method = m) (hsize : g.locals.size = c.maxLocals) {argsL rest : List Value} (has : (.ref a :: argsL).toArray = as)
    (hlen : ∀ sig, parseMethodDescriptor y.desc = some sig → argsL.length = sig.parameters.length) (hstack : g.stack = argsL.reverse ++ .ref a :: rest) (hW : 2 * g.monitorRoom + (rest.map fun v => v.category).sum ≤ W) (hd : decode c.code g.pc = .ok (.invokevirtual index, 3)) (hc : cells + kc ≤ R.cells) (hs : slots + ks ≤ R.slots) :
    ∃ v T' L, Stand p l e R s m args below meth c T' (locs ++ L) (cells + kc) (slots + ks) ∧ QQ v T'.heap L ∧ ∀ u, Steps p.tables e below (T'.setTop { g with pc := g.pc + 3, stack := v.toList ++ rest }) u → Steps p.tables e below (T.setTop g) u := by
  obtain ⟨cB, kB, q1, q2, q3⟩ := isOf hZ eT E
  obtain ⟨v, _, ⟨T', L', k', n'⟩, -, X', ⟨L, hQ, l1, y1, z1⟩, st⟩ := X.virtualBackUp hx hown (mvT hZ w1) (mvT hZ w5) (mvT hZ w2) hy (mvT hZ w3) (mvT hZ w4) K q1 q3 hg hsize (Steps.refl _) hlen hstack hW hd (fun _ _ => ⟨has, eT, hc, hs⟩)
  try dsimp only [Pt.U, Pt.locs, Pt.cells, Pt.slots] at X' l1 y1 z1 st hQ
  subst l1 y1 z1
  exact ⟨v, T', L, X', hQ, fun u k => st.trans k⟩
/-- a private method by invokevirtual -/
theorem goP (X : Stand p l e R s m args below meth c T locs cells slots) (hx : p.tables.exec = Jvm.exec) (hZ : Z.Warmed39 s.vm) {own C : String} {index : Nat} {y : MethodName} {bytes : ByteArray} {maxL : Nat} {ret : Option FieldType} (hown : s.vm.findClass own = some m.cls)
    (w1 : (Jvm.Cond.methodLink own index y).before a0 Z = true) (w2 : (Jvm.Cond.instanceMethod y).before a0 Z = true) (w3 : (Jvm.Cond.selects y.cls y y).before a0 Z = true) (w5 : (Jvm.Cond.privateMethod y).before a0 Z = true) (w4 : (Jvm.Cond.code y bytes maxL ret).before a0 Z = true) (hy : y.cls ≠ "java/lang/invoke/MethodHandle" ∧ y.cls ≠ "java/lang/invoke/VarHandle")
    {W kc ks : Nat} {as : Array Value} {QQ : Option Value → Heap → List Loc → Prop} (K : Pay l R p e below s args y W as h kc ks QQ) (eT : T.heap = h) {a : Addr} (E : Exa Z h a C) {g : JFrame} (hg : g.method = m) (hsize : g.locals.size = c.maxLocals) {argsL rest : List Value} (has : (.ref a :: argsL).toArray = as)
    (hlen : ∀ sig, parseMethodDescriptor y.desc = some sig → argsL.length = sig.parameters.length) (hstack : g.stack = argsL.reverse ++ .ref a :: rest) (hW : 2 * g.monitorRoom + (rest.map fun v => v.category).sum ≤ W) (hd : decode c.code g.pc = .ok (.invokevirtual index, 3)) (hc : cells + kc ≤ R.cells) (hs : slots + ks ≤ R.slots) :
    ∃ v T' L, Stand p l e R s m args below meth c T' (locs ++ L) (cells + kc) (slots + ks) ∧ QQ v T'.heap L ∧ ∀ u, Steps p.tables e below (T'.setTop { g with pc := g.pc + 3, stack := v.toList ++ rest }) u → Steps p.tables e below (T.setTop g) u := by
  obtain ⟨cq, q1, q2⟩ := E.cell
  obtain ⟨v, _, ⟨T', L', k', n'⟩, -, X', ⟨L, hQ, l1, y1, z1⟩, st⟩ := X.privateBack hx hown (mvT hZ w1) (mvT hZ w2) (mvT hZ w3) (Cond.privateMethod_at (mvP hZ w5 (args := #[]))) (mvT hZ w4) hy K hg hsize (Steps.refl _) (by rw [eT]; exact q1) q2 hlen hstack hW hd (fun _ _ => ⟨has, eT, hc, hs⟩)
  try dsimp only [Pt.U, Pt.locs, Pt.cells, Pt.slots] at X' l1 y1 z1 st hQ
  subst l1 y1 z1
  exact ⟨v, T', L, X', hQ, fun u k => st.trans k⟩
theorem lremM {g : JFrame} {target : State} (X : Stand p l e R s m args below meth c T locs cells slots) (hx : p.tables.exec = Jvm.exec) (hg : g.method = m) {x y : Int64} {rest : List Value} (hd : decode c.code g.pc = .ok (.lrem, 1)) (hs : g.stack = .long y :: .long x :: rest) (hy : y ≠ 0)
    (hr : Steps p.tables e below (T.setTop { g with pc := g.pc + 1, stack := .long (x % y) :: rest }) target) : Steps p.tables e below (T.setTop g) target :=
  XS.lrem X.here hx hg hd hs hy (by rw [lrem_mod]; exact hr)
theorem own_narrow_ref {t : FieldType} {v : Value} (h : v.isRef = true) : narrow t v = v := by cases v <;> first | (simp [Value.isRef] at h; done) | (cases t <;> rfl)
theorem own_fits_ref {C : String} {v : Value} (h : v.isRef = true) : fits (.object C) v = true := by cases v <;> simp_all [Value.isRef, fits]
/-- what the case's words say of a static -/
theorem sta_obj {C n d K : String} (hi : (Jvm.Cond.initializedFor C n d).before args s = true ∨ ((Jvm.Cond.initialized C).before args s = true ∧ (Jvm.Cond.laysStatic C n d).before args s = true)) (hx : (Jvm.Cond.exactly (.static C n d) K).value args s none s [] = some true) :
    ∃ a, Sta s s.heap C n d (.ref a) ∧ Exa s s.heap a K ∧ (Term.static C n d).eval args s none [] s = some (.ref a) := by
  obtain ⟨a, e⟩ := exa_v hx
  exact ⟨a, Sta.start e hi, Exa.start e hx, e⟩
theorem fld_l {t : Term} {a : Addr} {C f d : String} {v : Int64} (ev : t.eval args s none [] s = some (.ref a)) (h : (Jvm.Cond.eq (.field t C f d) (.long v)).value args s none s [] = some true) : Fld s s.heap a C f d (.long v) :=
  Fld.start (by rw [← fld_at ev]; exact eqv_l (long_at v) h)
theorem fld_i {t : Term} {a : Addr} {C f d : String} {v : Int32} (ev : t.eval args s none [] s = some (.ref a)) (h : (Jvm.Cond.eq (.field t C f d) (.int v)).value args s none s [] = some true) : Fld s s.heap a C f d (.int v) :=
  Fld.start (by rw [← fld_at ev]; exact eqv_i (Term.int_eval v) h)
theorem b01_ne {P : Prop} [Decidable P] (q : P) : ¬ (if P then (1 : Int32) else 0) = 0 := by rw [if_pos q]; decide
theorem b01_eq {P : Prop} [Decidable P] (q : ¬ P) : (if P then (1 : Int32) else 0) = 0 := if_neg q
theorem b01_nar {P : Prop} [Decidable P] : narrow .boolean (.int (if P then (1 : Int32) else 0)) = .int (if P then (1 : Int32) else 0) := by split <;> rfl
end Base
end Jvm.Own
namespace Jvm.Own
open Jvm Jvm.ClassFile Sem Op Lib Jvm.Free Jvm.Stand Jvm.LawKit Jvm.RoadKit Bundle
section Wide
variable {p : Program} {l : Launch} {e : Env} {R : Room} {s : State} {m : MethodId} {args : Array Value} {below : List Frame} {meth : Method} {c : Code} {T : State} {locs : List Loc} {cells slots : Nat} {Z : State} {a0 : Array Value} {h h0 : Heap} {EL : List (String × Nat)} {vm0 : Vm} {k0 : Nat}
/-- the end of a walk that may intern -/
def QW (Z : State) (EL : List (String × Nat)) (s : State) (rm : Room) (Q : Option Value → Heap → List Loc → Prop) (o : Outcome) (U' : State) : Prop := ∃ v L, o = .returned v ∧ Q v U'.heap L ∧ CHr Z EL s.vm s.heap U'.vm U'.heap ∧ ReturnedEndW s o U' L rm.cells rm.slots
abbrev CW (l : Launch) (Z : State) (EL : List (String × Nat)) (y : MethodName) (ws : List Jvm.Cond) (rm : Room) (as : Array Value) (h0 : Heap) (Q : Option Value → Heap → List Loc → Prop) : Prop :=
  MetFree l y (head1 ws rm) (fun a U => a = as ∧ Z.Warmed39 U.vm ∧ U.heap = h0 ∧ CHv Z EL U.vm h0) (fun _ _ _ _ _ => True) (fun _ U o U' => ∃ v L, o = .returned v ∧ Q v U'.heap L ∧ CHr Z EL U.vm U.heap U'.vm U'.heap ∧ ReturnedEndW U o U' L rm.cells rm.slots)
theorem CW.of {y : MethodName} {bytes : ByteArray} {maxL : Nat} {ret : Option FieldType} {ws : List Jvm.Cond} {rm : Room} {as : Array Value} {Q : Option Value → Heap → List Loc → Prop} {L0 : Array Slot}
    (hp : plainFor y = true) (ef : ∀ m, entryFrame m as maxL = mkF m 0 L0 [])
    (body : ∀ (p : Program) (e : Env) (s : State) (m : MethodId) (below : List Frame) (meth : Method) (c : Code) (s₁ : State), p.tables.exec = Jvm.exec → c.code = bytes → c.maxLocals = maxL → meth.sig.returnType = ret → meth.locks = false → Z.Warmed39 s.vm → s.vm.findClass y.cls = some m.cls → meth.name = y.name → Stand p l e rm (s.setVm s.vm) m as below meth c s₁ [] 0 0 → s₁.heap = h0 → s.Since s.vm h0.size → h0.size ≤ h0.size → CHv Z EL s.vm h0 → s.heap = h0 → Go p e below (QW Z EL s rm Q) (s₁.setTop (mkF m 0 L0 []))) :
    CW l Z EL y (Jvm.Cond.code y bytes maxL ret :: ws) rm as h0 Q := by
  refine MetFree.of_bodySF hp hisR ?_
  intro p e s m args below meth c s₁ Bd hml0 hP hK
  obtain ⟨rfl, hZ, hh, hC⟩ := hP
  have q := body p e s m below meth c s₁ Bd.exec Bd.bytes hml0 Bd.returns Bd.notSynchronized hZ (findClass_of_methodNamed Bd.named) (name_of_methodNamed Bd.named Bd.method).1 (Stand.of_body Bd) (by rw [← hh, Bd.state]; rfl) (State.WarmedH.since (State.WarmedH.refl s) _) (Nat.le_refl _) hC hh
  rw [← ef m] at q
  exact q
theorem Go.retW {Q : Option Value → Heap → List Loc → Prop} {rm : Room} {t : State} (X : Stand p l e R (s.setVm vm0) m args below meth c T locs cells slots) (eT : T.heap = h) (hS : s.Since vm0 k0) (hk : k0 ≤ h.size) (hZ : Z.Warmed39 vm0) (hEL : EW Z a0 EL) (hh0 : s.heap = h0) (HC : CHr Z EL s.vm h0 vm0 h) (hlk : meth.locks = false) (v : Option Value) (hv : meth.sig.returnType = none → v = none) (hc : cells ≤ rm.cells) (hs : slots ≤ rm.slots) (q : Q v T.heap locs)
    (st : ∀ fs, (∀ (f : JFrame) (acts : List Action), f.method = m → f.locked = none → f.entered = [] → (doReturn e (T.setTop f) acts v).1 = T.setFrames fs) → Steps p.tables e below t (T.setFrames fs)) : Go p e below (QW Z EL s rm Q) t := by
  subst eT hh0
  obtain ⟨fs, hr, hrun, hended, hR⟩ := X.leaveW hS hk (v := v) hv hlk
  have q2 : CHr Z EL vm0 T.heap T.vm T.heap := CHv.at X hZ hEL HC.1
  exact ⟨_, _, st fs hr, hrun, hended, v, locs, rfl, q, HC.trans q2, hR.1, hR.2.1, hR.2.2.1, hR.2.2.2.mono hc hs⟩
theorem Go.retVW {Q : Option Value → Heap → List Loc → Prop} {rm : Room} (X : Stand p l e R (s.setVm vm0) m args below meth c T locs cells slots) (eT : T.heap = h) (hS : s.Since vm0 k0) (hk : k0 ≤ h.size) (hZ : Z.Warmed39 vm0) (hEL : EW Z a0 EL) (hh0 : s.heap = h0) (HC : CHr Z EL s.vm h0 vm0 h) (hx : p.tables.exec = Jvm.exec) (hlk : meth.locks = false) {pc : Nat} {Ls : Array Slot} {w : Value} {t : FieldType} {i : Instr} {rest : List Value} (hret : meth.sig.returnType = some t) (hn : narrow t w = w)
    (hi : (i = .ireturn ∧ (t = .int ∨ t = .boolean ∨ t = .byte ∨ t = .char ∨ t = .short) ∧ ∃ z, w = .int z) ∨ (i = .lreturn ∧ t = .long ∧ ∃ z, w = .long z) ∨ (i = .dreturn ∧ t = .double ∧ ∃ z, w = .double z) ∨ (i = .freturn ∧ t = .float ∧ ∃ z, w = .float z) ∨ (i = .areturn ∧ t.isReference = true ∧ w.isRef = true))
    (hd : decode c.code pc = .ok (i, 1)) (hc : cells ≤ rm.cells) (hs : slots ≤ rm.slots) (q : Q (some w) T.heap locs) : Go p e below (QW Z EL s rm Q) (T.setTop (mkF m pc Ls (w :: rest))) :=
  Go.retW X eT hS hk hZ hEL hh0 HC hlk (some w) (fun h => by rw [hret] at h; cases h) hc hs q fun fs hr => retOut X hx hret hn hi hd hr
theorem Go.ret0W {Q : Option Value → Heap → List Loc → Prop} {rm : Room} (X : Stand p l e R (s.setVm vm0) m args below meth c T locs cells slots) (eT : T.heap = h) (hS : s.Since vm0 k0) (hk : k0 ≤ h.size) (hZ : Z.Warmed39 vm0) (hEL : EW Z a0 EL) (hh0 : s.heap = h0) (HC : CHr Z EL s.vm h0 vm0 h) (hx : p.tables.exec = Jvm.exec) (hlk : meth.locks = false) {pc : Nat} {Ls : Array Slot} (hret : meth.sig.returnType = none)
    (hd : decode c.code pc = .ok (.return_, 1)) (hc : cells ≤ rm.cells) (hs : slots ≤ rm.slots) (q : Q none T.heap locs) : Go p e below (QW Z EL s rm Q) (T.setTop (mkF m pc Ls [])) :=
  Go.retW X eT hS hk hZ hEL hh0 HC hlk none (fun _ => rfl) hc hs q fun fs hr => X.returnOut hx hret hd hr
/-- a String whose value isn't set yet is no booked one -/
theorem own_safe_null {x : Addr} {k : Nat} {vm : Vm} (hal : Z.vm.Alike vm) (E : Exa Z h x "java/lang/String") (F : Fld Z h x "java/lang/String" "value" "[B" .null) (wi : (Jvm.Cond.instantiable "java/lang/String" k).before a0 Z = true) : Safe Z EL vm h x := fun B => by
  obtain ⟨p, -, u, a, -, q, -, G, rfl | rfl⟩ := B
  · obtain ⟨cell, cf, k1, i, f, e1, e2, e3, e4, e5, e6, e7⟩ := F
    cases (show h[q.sa]? = some q.sC from G.ha).symm.trans e1
    obtain ⟨cS, ⟨⟨s1, s2, s3, ⟨cv, kv, iv, s4, s4'⟩, ⟨cc, kc, ic, s5, s5'⟩, s6, s7, s8, s9, r⟩, hfS, hcS⟩, r2⟩ := G
    obtain ⟨kv', z4⟩ := ff_back (U := Wst Z vm h) hal s4
    have e8 := e2.symm.trans z4
    simp only [Option.some.injEq, Prod.mk.injEq] at e8
    rw [e8.2.2.2, s8] at e7
    cases e7
  · obtain ⟨cell, k1, e1, e2, e3, -, -⟩ := E
    cases (show h[q.sd]? = some q.SA from G.hd).symm.trans e1
    obtain ⟨cS, -, -, f, -⟩ := G
    have f : vm.findClass "[B" = some q.SA.cls := f
    rw [hal.findClass] at f
    obtain ⟨k2, q1, q2⟩ := Vm.findClass_spec f
    obtain ⟨k3, q3, q4⟩ := Vm.findClass_spec e2
    cases q1.symm.trans q3
    exact absurd (q2.symm.trans q4) (by decide)
abbrev PayW (l : Launch) (R : Room) (p : Program) (e : Env) (below : List Frame) (Z : State) (EL : List (String × Nat)) (s : State) (vm0 : Vm) (args : Array Value) (y : MethodName) (W : Nat) (as : Array Value) (h : Heap) (kc ks : Nat) (QQ : Option Value → Heap → List Loc → Prop) : Prop :=
  BackS l R p e below (s.setVm vm0) args y 3 W (fun P a => a = as ∧ P.U.heap = h ∧ P.cells + kc ≤ R.cells ∧ P.slots + ks ≤ R.slots) (fun P _ v B => ∃ L, QQ v B.U.heap L ∧ B.locs = P.locs ++ L ∧ B.cells = P.cells + kc ∧ B.slots = P.slots + ks ∧ CHr Z EL vm0 h B.U.vm B.U.heap)
/-- what stands behind a call that may intern -/
abbrev AftW (p : Program) (l : Launch) (e : Env) (R : Room) (s : State) (m : MethodId) (args : Array Value) (below : List Frame) (meth : Method) (c : Code) (T : State) (locs : List Loc) (cells slots : Nat) (Z : State) (EL : List (String × Nat)) (vm0 : Vm) (h : Heap) (own : String) (kc ks : Nat) (QQ : Option Value → Heap → List Loc → Prop) (g : JFrame) (rest : List Value) : Prop :=
  ∃ v T' L, Stand p l e R (s.setVm T'.vm) m args below meth c T' (locs ++ L) (cells + kc) (slots + ks) ∧ QQ v T'.heap L ∧ s.Since T'.vm T'.heap.size ∧ Z.Warmed39 T'.vm ∧ T'.vm.findClass own = some m.cls ∧ CHr Z EL vm0 h T'.vm T'.heap ∧ ∀ u, Steps p.tables e below (T'.setTop { g with pc := g.pc + 3, stack := v.toList ++ rest }) u → Steps p.tables e below (T.setTop g) u
theorem goSW (X : Stand p l e R (s.setVm vm0) m args below meth c T locs cells slots) (hx : p.tables.exec = Jvm.exec) (hZ : Z.Warmed39 vm0) {own : String} {index : Nat} {y : MethodName} {bytes : ByteArray} {maxL : Nat} {ret : Option FieldType} (hown : vm0.findClass own = some m.cls) (hS : s.Since vm0 k0) (hk : k0 ≤ h.size)
    (w1 : (Jvm.Cond.methodLink own index y).before a0 Z = true) (w2 : (Jvm.Cond.static y).before a0 Z = true) (w3 : (Jvm.Cond.initialized y.cls).before a0 Z = true) (w4 : (Jvm.Cond.code y bytes maxL ret).before a0 Z = true) (hy : y.cls ≠ "java/lang/invoke/MethodHandle" ∧ y.cls ≠ "java/lang/invoke/VarHandle")
    {W kc ks : Nat} {as : Array Value} {QQ : Option Value → Heap → List Loc → Prop} (K : PayW l R p e below Z EL s vm0 args y W as h kc ks QQ) (eT : T.heap = h) {g : JFrame} (hg : g.method = m) (hsize : g.locals.size = c.maxLocals) {argsL rest : List Value} (has : argsL.toArray = as)
    (hlen : ∀ sig, parseMethodDescriptor y.desc = some sig → argsL.length = sig.parameters.length) (hstack : g.stack = argsL.reverse ++ rest) (hW : 2 * g.monitorRoom + (rest.map fun v => v.category).sum ≤ W) (hd : decode c.code g.pc = .ok (.invokestatic index, 3)) (hc : cells + kc ≤ R.cells) (hs : slots + ks ≤ R.slots) :
    AftW p l e R s m args below meth c T locs cells slots Z EL vm0 h own kc ks QQ g rest := by
  subst eT
  obtain ⟨v, _, ⟨T', L', k', n'⟩, -, X', h2, gl, ⟨L, hQ, l1, y1, z1, hC⟩, st⟩ := callSS X hx hown (mvT (s := s.setVm vm0) hZ w1) (mvT (s := s.setVm vm0) hZ w2) (mvT (s := s.setVm vm0) hZ w3) (mvT (s := s.setVm vm0) hZ w4) hy K hg hsize hlen hstack hW hd (fun _ _ => ⟨has, rfl, hc, hs⟩)
  try dsimp only [Pt.U, Pt.locs, Pt.cells, Pt.slots] at X' l1 y1 z1 st hQ h2 gl hC
  subst l1 y1 z1
  obtain ⟨a1, a2, a3, a4⟩ := rebS hS hk X' h2 gl hZ hown
  exact ⟨v, T', L, a1, hQ, a2, a3, a4, hC, fun u k => st.trans k⟩
theorem goCW (X : Stand p l e R (s.setVm vm0) m args below meth c T locs cells slots) (hx : p.tables.exec = Jvm.exec) (hZ : Z.Warmed39 vm0) {own : String} {index : Nat} {y : MethodName} {bytes : ByteArray} {maxL : Nat} (hown : vm0.findClass own = some m.cls) (hS : s.Since vm0 k0) (hk : k0 ≤ h.size)
    (hy1 : y.name = "<init>") (w1 : (Jvm.Cond.methodLink own index y).before a0 Z = true) (w2 : (Jvm.Cond.instanceMethod y).before a0 Z = true) (w4 : (Jvm.Cond.code y bytes maxL none).before a0 Z = true) (hy : y.cls ≠ "java/lang/invoke/MethodHandle" ∧ y.cls ≠ "java/lang/invoke/VarHandle")
    {W kc ks : Nat} {as : Array Value} {QQ : Option Value → Heap → List Loc → Prop} (K : PayW l R p e below Z EL s vm0 args y W as h kc ks QQ) (eT : T.heap = h) {g : JFrame} (hg : g.method = m) (hsize : g.locals.size = c.maxLocals) {a : Addr} {argsL rest : List Value} (has : (.ref a :: argsL).toArray = as)
    (hlen : ∀ sig, parseMethodDescriptor y.desc = some sig → argsL.length = sig.parameters.length) (hstack : g.stack = argsL.reverse ++ .ref a :: rest) (hW : 2 * g.monitorRoom + (rest.map fun v => v.category).sum ≤ W) (hd : decode c.code g.pc = .ok (.invokespecial index, 3)) (hc : cells + kc ≤ R.cells) (hs : slots + ks ≤ R.slots) :
    AftW p l e R s m args below meth c T locs cells slots Z EL vm0 h own kc ks QQ g rest := by
  subst eT
  obtain ⟨v, _, ⟨T', L', k', n'⟩, -, X', h2, gl, ⟨L, hQ, l1, y1, z1, hC⟩, st⟩ := X.specialBackS hx hy1 hown (mvT (s := s.setVm vm0) hZ w1) (mvT (s := s.setVm vm0) hZ w2) (mvT (s := s.setVm vm0) hZ w4) hy K hg hsize (Steps.refl _) hlen hstack hW hd (fun _ _ => ⟨has, rfl, hc, hs⟩)
  try dsimp only [Pt.U, Pt.locs, Pt.cells, Pt.slots] at X' l1 y1 z1 st hQ h2 gl hC
  subst l1 y1 z1
  obtain ⟨a1, a2, a3, a4⟩ := rebS hS hk X' h2 gl hZ hown
  exact ⟨v, T', L, a1, hQ, a2, a3, a4, hC, fun u k => st.trans k⟩
theorem goVW (X : Stand p l e R (s.setVm vm0) m args below meth c T locs cells slots) (hx : p.tables.exec = Jvm.exec) (hZ : Z.Warmed39 vm0) {own C : String} {index : Nat} {y z : MethodName} (hown : vm0.findClass own = some m.cls) (hS : s.Since vm0 k0) (hk : k0 ≤ h.size)
    (w1 : (Jvm.Cond.methodLink own index y).before a0 Z = true) (w2 : (Jvm.Cond.declares y).before a0 Z = true) (hnf : NotFace (s.setVm vm0) y) (w3 : (Jvm.Cond.selects C y z).before a0 Z = true) (w4 : (Jvm.Cond.instanceMethod z).before a0 Z = true) (hy : y.cls ≠ "java/lang/invoke/MethodHandle" ∧ y.cls ≠ "java/lang/invoke/VarHandle")
    {W kc ks : Nat} {as : Array Value} {QQ : Option Value → Heap → List Loc → Prop} (K : PayW l R p e below Z EL s vm0 args z W as h kc ks QQ) (eT : T.heap = h) {a : Addr} (E : Exa Z h a C) {g : JFrame} (hg : g.method = m) (hsize : g.locals.size = c.maxLocals) {argsL rest : List Value} (has : (.ref a :: argsL).toArray = as)
    (hlen : ∀ sig, parseMethodDescriptor y.desc = some sig → argsL.length = sig.parameters.length) (hstack : g.stack = argsL.reverse ++ .ref a :: rest) (hW : 2 * g.monitorRoom + (rest.map fun v => v.category).sum ≤ W) (hd : decode c.code g.pc = .ok (.invokevirtual index, 3)) (hc : cells + kc ≤ R.cells) (hs : slots + ks ≤ R.slots) :
    AftW p l e R s m args below meth c T locs cells slots Z EL vm0 h own kc ks QQ g rest := by
  subst eT
  obtain ⟨cB, kB, q1, q2, q3⟩ := isOf (s := s.setVm vm0) hZ rfl E
  obtain ⟨v, _, ⟨T', L', k', n'⟩, -, X', h2, gl, ⟨L, hQ, l1, y1, z1, hC⟩, st⟩ := X.virtualBackS hx hown (mvT (s := s.setVm vm0) hZ w1) (mvT (s := s.setVm vm0) hZ w2) hnf (mvT (s := s.setVm vm0) hZ w3) (mvT (s := s.setVm vm0) hZ w4) hy K q1 q3 hg hsize (Steps.refl _) hlen hstack hW hd (fun _ _ => ⟨has, rfl, hc, hs⟩)
  try dsimp only [Pt.U, Pt.locs, Pt.cells, Pt.slots] at X' l1 y1 z1 st hQ h2 gl hC
  subst l1 y1 z1
  obtain ⟨a1, a2, a3, a4⟩ := rebS hS hk X' h2 gl hZ hown
  exact ⟨v, T', L, a1, hQ, a2, a3, a4, hC, fun u k => st.trans k⟩
end Wide
end Jvm.Own
namespace Jvm.Own
open Jvm Jvm.ClassFile Sem Op Lib Jvm.Free Jvm.Stand Jvm.LawKit Jvm.RoadKit Bundle
section Strs
variable {Z : State} {h h' : Heap} {x : Addr} {cs : List Int32} {B B' : Nat} {a : Addr} {sl : Nat} {v : Value} {ws : List Addr}
/-- at x stands a String of the chars cs (each 0 to 255), it and its array below B -/
def Str (Z : State) (B : Nat) (h : Heap) (x : Addr) (cs : List Int32) : Prop := ∃ (t : Addr) (kb : ClassId), x < B ∧ t < B ∧ Exa Z h x "java/lang/String" ∧ Fld Z h x "java/lang/String" "value" "[B" (.ref t) ∧ Fld Z h x "java/lang/String" "coder" "B" (.int 0) ∧ Arv Z h t kb .byte (Int32.ofNat cs.length) ((cs.map fun c => c.toInt8.toInt32).map Value.int) (.int 0) ∧ (∀ c ∈ cs, ¬ c < 0 ∧ ¬ (255 : Int32) < c) ∧ cs.length ≤ 4000
theorem Str.ext (F : Str Z B h x cs) (E : Ext h h') : Str Z B h' x cs := by
  obtain ⟨t, kb, h1, h2, a, b, c, d, r⟩ := F; exact ⟨t, kb, h1, h2, a.ext E, b.ext E, c.ext E, d.ext E, r⟩
theorem Str.wr (F : Str Z B h x cs) (W : Wr h h' a sl v) (q : B ≤ a) : Str Z B h' x cs := by
  obtain ⟨t, kb, h1, h2, a, b, c, d, r⟩ := F
  exact ⟨t, kb, h1, h2, a.wr W, b.other W (Or.inl (Nat.ne_of_lt (Nat.lt_of_lt_of_le h1 q))), c.other W (Or.inl (Nat.ne_of_lt (Nat.lt_of_lt_of_le h1 q))), d.other W (Nat.ne_of_lt (Nat.lt_of_lt_of_le h2 q)), r⟩
theorem Str.keep (F : Str Z B h x cs) (K : Keep h h' ws) (q : ∀ w ∈ ws, B ≤ w) : Str Z B h' x cs := by
  obtain ⟨t, kb, h1, h2, a, b, c, d, r⟩ := F
  have n1 : x ∉ ws := fun z => absurd h1 (Nat.not_lt.mpr (q _ z))
  have n2 : t ∉ ws := fun z => absurd h2 (Nat.not_lt.mpr (q _ z))
  exact ⟨t, kb, h1, h2, a.keep K, b.keep K n1, c.keep K n1, d.keep K n2, r⟩
theorem Str.mono (F : Str Z B h x cs) (q : B ≤ B') : Str Z B' h x cs := by
  obtain ⟨t, kb, h1, h2, r⟩ := F; exact ⟨t, kb, Nat.lt_of_lt_of_le h1 q, Nat.lt_of_lt_of_le h2 q, r⟩
theorem Str.lt (F : Str Z B h x cs) : x < B := by obtain ⟨t, kb, h1, r⟩ := F; exact h1
theorem Str.exa (F : Str Z B h x cs) : Exa Z h x "java/lang/String" := by obtain ⟨t, kb, h1, h2, a, r⟩ := F; exact a
theorem Str.lat (F : Str Z B h x cs) : ∀ c ∈ cs, ¬ c < 0 ∧ ¬ (255 : Int32) < c := by obtain ⟨t, kb, h1, h2, a, b, c, d, r, -⟩ := F; exact r
theorem Str.le4 (F : Str Z B h x cs) : cs.length ≤ 4000 := by obtain ⟨t, kb, h1, h2, a, b, c, d, r, q⟩ := F; exact q
theorem up255 {cs : List Int32} (hp : ∀ c ∈ cs, ¬ c < 0 ∧ ¬ (255 : Int32) < c) : ∀ c ∈ cs, ¬ c < 0 ∧ ¬ (65535 : Int32) < c := fun c hc => ⟨(hp c hc).1, fun q => (hp c hc).2 (by
  rw [Int32.lt_iff_toInt_lt] at q ⊢
  have e1 : (65535 : Int32).toInt = 65535 := by decide
  have e2 : (255 : Int32).toInt = 255 := by decide
  omega)⟩
end Strs
end Jvm.Own
/- laws to paste: Road.backV, Road.codOf (cut by pick.py; bodies as the Statement names them) -/
namespace Jvm.Pilot.@@N@@
namespace StrChars
open Jvm Sem ClassFile Op Lib Jvm.Stand Jvm.Free.XT Jvm.Free.ALB Jvm.Free.JM Jvm.Free
open Jvm.Lib.Cold (StaticIs)
/-- a char array whose places are chars -/
def Ch (a : Addr) (A : Cell) (U : State) : Prop := Arr .char a A U ∧ Typed .char A
theorem Ch.mv {a : Addr} {A : Cell} {U U' : State} (h : Ch a A U) (hal : U.vm.Alike U'.vm) (hh : U'.heap = U.heap) : Ch a A U' := ⟨h.1.mv hal hh, h.2⟩
theorem Ch.keep {a : Addr} {A : Cell} {U U' : State} (h : Ch a A U) (hal : U.vm.Alike U'.vm) (hk : U'.heap[a]? = some A) : Ch a A U' := ⟨h.1.keep hal hk, h.2⟩
/-- what place i of a char[]'s cell holds -/
def cv (A : Cell) (i : Nat) : Int32 := match A.slots[i]? with | some (.int x) => x | _ => 0
theorem Ch.get {a : Addr} {A : Cell} {U : State} (h : Ch a A U) {i : Nat} (hi : i < A.slots.size) : A.slots[i]? = some (.int (cv A i)) := by
  have e := Array.getElem?_eq_getElem hi
  have f := h.2 i _ e
  unfold cv; rw [e]
  generalize A.slots[i] = v at f
  cases v <;> simp [fits] at f ⊢
/-- the byte that i2b leaves of a char -/
def lo8 (x : Int32) : Int32 := x.toInt8.toInt32
theorem fits_lo8 (y : Int32) : fits .byte (.int (lo8 y)) = true := by
  have h1 := y.toInt8.le_toInt
  have h2 := y.toInt8.toInt_lt
  simp only [lo8, fits, Bool.and_eq_true, decide_eq_true_eq, Int32.le_iff_toInt_le, Int8.toInt_toInt32, show (-128 : Int32).toInt = -128 from by decide, show (127 : Int32).toInt = 127 from by decide]
  omega
/-- A' is A but that each place j of lo .. hi - 1 holds f j -/
def Laid (A A' : Cell) (lo hi : Nat) (f : Nat → Value) : Prop := A'.cls = A.cls ∧ A'.vm = A.vm ∧ A'.slots.size = A.slots.size ∧ ∀ i, A'.slots[i]? = if lo ≤ i ∧ i < hi then some (f i) else A.slots[i]?
theorem Laid.zero (A : Cell) (lo : Nat) (f : Nat → Value) : Laid A A lo (lo + 0) f := ⟨rfl, rfl, rfl, fun i => by rw [if_neg (by omega)]⟩
theorem Laid.step {A Ak : Cell} {lo k : Nat} {f : Nat → Value} {v : Value} (h : Laid A Ak lo k f) (hlo : lo ≤ k) (hk : k < Ak.slots.size) (hv : v = f k) : Laid A (Ak.setSlot k v) lo (k + 1) f := by
  refine ⟨h.1, h.2.1, by simpa [Cell.setSlot] using h.2.2.1, fun i => ?_⟩
  by_cases e : k = i
  · subst e; rw [Cell.slots_setSlot_self v hk, if_pos (by omega), hv]
  · rw [Cell.slots_setSlot_ne v e, h.2.2.2 i]
    by_cases q : lo ≤ i ∧ i < k
    · rw [if_pos q, if_pos (by omega)]
    · rw [if_neg q, if_neg (by omega)]
def U16 : String := "java/lang/StringUTF16"
namespace Cmp5
def yN : MethodName := ⟨"java/lang/StringUTF16", "compress", "([CI[BII)I"⟩
abbrev yB : ByteArray := jdk_52_method_21_code
theorem d0 : decode yB 0 = .ok (.iconst 0, 1) := by decide +kernel
theorem d1 : decode yB 1 = .ok (.istore 5, 2) := by decide +kernel
theorem d3 : decode yB 3 = .ok (.iload 5, 2) := by decide +kernel
theorem d5 : decode yB 5 = .ok (.iload 4, 2) := by decide +kernel
theorem d7 : decode yB 7 = .ok (.if_icmp (.ge) 37, 3) := by decide +kernel
theorem d10 : decode yB 10 = .ok (.aload_n 0, 1) := by decide +kernel
theorem d11 : decode yB 11 = .ok (.iload_n 1, 1) := by decide +kernel
theorem d12 : decode yB 12 = .ok (.caload, 1) := by decide +kernel
theorem d13 : decode yB 13 = .ok (.istore 6, 2) := by decide +kernel
theorem d15 : decode yB 15 = .ok (.iload 6, 2) := by decide +kernel
theorem d17 : decode yB 17 = .ok (.sipush 255, 3) := by decide +kernel
theorem d20 : decode yB 20 = .ok (.if_icmp (.le) 6, 3) := by decide +kernel
theorem d26 : decode yB 26 = .ok (.aload_n 2, 1) := by decide +kernel
theorem d27 : decode yB 27 = .ok (.iload_n 3, 1) := by decide +kernel
theorem d28 : decode yB 28 = .ok (.iload 6, 2) := by decide +kernel
theorem d30 : decode yB 30 = .ok (.i2b, 1) := by decide +kernel
theorem d31 : decode yB 31 = .ok (.bastore, 1) := by decide +kernel
theorem d32 : decode yB 32 = .ok (.iinc 1 1, 3) := by decide +kernel
theorem d35 : decode yB 35 = .ok (.iinc 3 1, 3) := by decide +kernel
theorem d38 : decode yB 38 = .ok (.iinc 5 1, 3) := by decide +kernel
theorem d41 : decode yB 41 = .ok (.goto (-38), 3) := by decide +kernel
theorem d44 : decode yB 44 = .ok (.iload 4, 2) := by decide +kernel
theorem d46 : decode yB 46 = .ok (.ireturn, 1) := by decide +kernel
def site : List Cond := []
def tab : Cond := tabOf yN yB 7 (some .int) site
def P (b : Addr) (A : Cell) (d : Addr) (B : Cell) (o q len : Nat) (args : Array Value) (s : State) : Prop := args = #[.ref b, .int (Int32.ofNat o), .ref d, .int (Int32.ofNat q), .int (Int32.ofNat len)] ∧ Ch b A s ∧ Arr .byte d B s ∧ b ≠ d ∧ o + len ≤ A.slots.size ∧ q + len ≤ B.slots.size ∧ ∀ i, i < len → ¬ 255 < cv A (o + i)
def E (b : Addr) (A : Cell) (d : Addr) (B : Cell) (o q len : Nat) (r : Option Value) (s u : State) : Prop := r = some (.int (Int32.ofNat len)) ∧ ∃ B', Put d B' s u ∧ Laid B B' q (q + len) (fun j => Value.int (lo8 (cv A (o + (j - q)))))
/-- no char of the range above 255: len; the places written hold each char's low byte -/
theorem law (l : Launch) (b : Addr) (A : Cell) (d : Addr) (B : Cell) (o q len : Nat) : Law l yN 5 5 0 0 yB 7 (some .int) site (P b A d B o q len) (E b A d B o q len) (copyLocs d q len) 0 0 := by
  refine Law.of_walk (plainFor_of_name (by decide +kernel)) (by decide +kernel) (by decide +kernel) (by decide) (fun _ _ h => by rw [h.1]; rfl) (fun _ U U' hal hh h => ⟨h.1, h.2.1.mv hal hh, h.2.2.1.mv hal hh, h.2.2.2⟩) (fun r U U' V V' h1 hal h2 h => ⟨h.1, h.2.elim fun B' q => ⟨B', q.1.mv h1 h2, q.2⟩⟩) ?_
  intro p e s m args below meth c s₁ X0 hexec hbytes hml hret hlk hnm hown hh0 W hP
  obtain ⟨rfl, hA, hB, hne, l1, l2, hp⟩ := hP
  have c1 : Steps p.tables e below (s₁.setTop (entryFrame m #[.ref b, .int (Int32.ofNat o), .ref d, .int (Int32.ofNat q), .int (Int32.ofNat len)] 7)) (s₁.setTop (mkF m 0 #[.val (.ref b), .val (.int (Int32.ofNat o)), .val (.ref d), .val (.int (Int32.ofNat q)), .val (.int (Int32.ofNat len)), .unset, .unset] [])) := entry rfl
  have hA0 := hA.1.mv X0.warmed.alike hh0
  have hB0 := hB.mv X0.warmed.alike hh0
  have a31 := hA.1.2.2.2
  have c2 : Steps p.tables e below (s₁.setTop (entryFrame m #[.ref b, .int (Int32.ofNat o), .ref d, .int (Int32.ofNat q), .int (Int32.ofNat len)] 7)) (s₁.setTop (mkF m 3 #[.val (.ref b), .val (.int (Int32.ofNat o)), .val (.ref d), .val (.int (Int32.ofNat q)), .val (.int (Int32.ofNat len)), .val (.int 0), .unset] [])) := c1.trans (by
    refine iconstV X0.here hexec rfl 0 (hb hbytes d0) (by decide) ?_
    refine XS.istore X0.here hexec rfl (hb hbytes d1) rfl rfl ?_
    exact Steps.refl _)
  have loop : ∀ (r i : Nat), i + r = len → ∀ (z : Slot), (z = .unset ∨ ∃ w, z = .val w ∧ w.category = 1) → ∀ (Tl : State) (Bk : Cell), Stand p l e { frames := 0, locals := 0, cells := 0, slots := 0 } s m #[.ref b, .int (Int32.ofNat o), .ref d, .int (Int32.ofNat q), .int (Int32.ofNat len)] below meth c Tl ([] ++ copyLocs d q i) 0 0 → Put d Bk s₁ Tl → Laid B Bk q (q + i) (fun j => Value.int (lo8 (cv A (o + (j - q))))) →
      Steps p.tables e below (s₁.setTop (entryFrame m #[.ref b, .int (Int32.ofNat o), .ref d, .int (Int32.ofNat q), .int (Int32.ofNat len)] 7)) (Tl.setTop (mkF m 3 #[.val (.ref b), .val (.int (Int32.ofNat (o + i))), .val (.ref d), .val (.int (Int32.ofNat (q + i))), .val (.int (Int32.ofNat len)), .val (.int (Int32.ofNat i)), z] [])) → ∃ (T' : State) (B' : Cell) (z' : Slot), Stand p l e { frames := 0, locals := 0, cells := 0, slots := 0 } s m #[.ref b, .int (Int32.ofNat o), .ref d, .int (Int32.ofNat q), .int (Int32.ofNat len)] below meth c T' ([] ++ copyLocs d q len) 0 0 ∧ Put d B' s₁ T' ∧ Laid B B' q (q + len) (fun j => Value.int (lo8 (cv A (o + (j - q))))) ∧
      Steps p.tables e below (s₁.setTop (entryFrame m #[.ref b, .int (Int32.ofNat o), .ref d, .int (Int32.ofNat q), .int (Int32.ofNat len)] 7)) (T'.setTop (mkF m 3 #[.val (.ref b), .val (.int (Int32.ofNat (o + len))), .val (.ref d), .val (.int (Int32.ofNat (q + len))), .val (.int (Int32.ofNat len)), .val (.int (Int32.ofNat len)), z'] [])) := by
    intro r
    induction r with
    | zero =>
      intro i hi z hz Tl Bk Xl pl fl cl
      have hil : i = len := by omega
      rw [hil] at Xl fl cl
      exact ⟨Tl, Bk, z, Xl, pl, fl, cl⟩
    | succ r ih =>
      intro i hi z hz Tl Bk Xl pl fl cl
      have all := X0.warmed.alike.symm.trans Xl.warmed.alike
      have hAl := hA0.keep all (pl.other hne hA0.1)
      have hBk := hB0.like all pl.1 fl.1 fl.2.1 fl.2.2.1
      have hlt : q + i < Bk.slots.size := by rw [fl.2.2.1]; omega
      have c3 : Steps p.tables e below (s₁.setTop (entryFrame m #[.ref b, .int (Int32.ofNat o), .ref d, .int (Int32.ofNat q), .int (Int32.ofNat len)] 7)) (Tl.setTop (mkF m 12 #[.val (.ref b), .val (.int (Int32.ofNat (o + i))), .val (.ref d), .val (.int (Int32.ofNat (q + i))), .val (.int (Int32.ofNat len)), .val (.int (Int32.ofNat i)), z] [.int (Int32.ofNat (o + i)), .ref b])) := cl.trans (by
        refine XS.iload Xl.here hexec rfl (hb hbytes d3) rfl ?_
        refine XS.iload Xl.here hexec rfl (hb hbytes d5) rfl ?_
        refine XS.icmpNo Xl.here hexec rfl (hb hbytes d7) rfl (ii_ge_f (lt32 (by omega) (by omega))) ?_
        refine XS.aloadN Xl.here hexec rfl (hb hbytes d10) rfl rfl ?_
        refine XS.iloadN Xl.here hexec rfl (hb hbytes d11) rfl ?_
        exact Steps.refl _)
      have c4 : Steps p.tables e below (s₁.setTop (entryFrame m #[.ref b, .int (Int32.ofNat o), .ref d, .int (Int32.ofNat q), .int (Int32.ofNat len)] 7)) (Tl.setTop (mkF m 13 #[.val (.ref b), .val (.int (Int32.ofNat (o + i))), .val (.ref d), .val (.int (Int32.ofNat (q + i))), .val (.int (Int32.ofNat len)), .val (.int (Int32.ofNat i)), z] [.int (cv A (o + i))])) := c3.trans (by
        refine Xl.aget hexec hAl rfl (hA.get (i := o + i) (by omega)) rfl rfl (hb hbytes d12) ?_
        exact Steps.refl _)
      have c5 : Steps p.tables e below (s₁.setTop (entryFrame m #[.ref b, .int (Int32.ofNat o), .ref d, .int (Int32.ofNat q), .int (Int32.ofNat len)] 7)) (Tl.setTop (mkF m 15 #[.val (.ref b), .val (.int (Int32.ofNat (o + i))), .val (.ref d), .val (.int (Int32.ofNat (q + i))), .val (.int (Int32.ofNat len)), .val (.int (Int32.ofNat i)), .val (.int (cv A (o + i)))] [])) := c4.trans (by
        refine XS.istoreS Xl.here hexec rfl (hb hbytes d13) rfl rfl hz ?_
        exact Steps.refl _)
      have c6 : Steps p.tables e below (s₁.setTop (entryFrame m #[.ref b, .int (Int32.ofNat o), .ref d, .int (Int32.ofNat q), .int (Int32.ofNat len)] 7)) (Tl.setTop (mkF m 31 #[.val (.ref b), .val (.int (Int32.ofNat (o + i))), .val (.ref d), .val (.int (Int32.ofNat (q + i))), .val (.int (Int32.ofNat len)), .val (.int (Int32.ofNat i)), .val (.int (cv A (o + i)))] [.int (lo8 (cv A (o + i))), .int (Int32.ofNat (q + i)), .ref d])) := c5.trans (by
        refine XS.iload Xl.here hexec rfl (hb hbytes d15) rfl ?_
        refine sipushV Xl.here hexec rfl 255 (hb hbytes d17) (by decide) ?_
        refine XS.icmpYes Xl.here hexec rfl (pc0 := 20) rfl (hb hbytes d20) rfl (ii_le_t (hp i (by omega))) (by decide) rfl ?_
        refine XS.aloadN Xl.here hexec rfl (hb hbytes d26) rfl rfl ?_
        refine XS.iloadN Xl.here hexec rfl (hb hbytes d27) rfl ?_
        refine XS.iload Xl.here hexec rfl (hb hbytes d28) rfl ?_
        refine i2b Xl.here hexec rfl (hb hbytes d30) rfl ?_
        exact Steps.refl _)
      obtain ⟨T7, X7, p7, st7⟩ := Xl.aput hexec hBk rfl hlt rfl (fits_lo8 (cv A (o + i))) (g := (mkF m 31 #[.val (.ref b), .val (.int (Int32.ofNat (o + i))), .val (.ref d), .val (.int (Int32.ofNat (q + i))), .val (.int (Int32.ofNat len)), .val (.int (Int32.ofNat i)), .val (.int (cv A (o + i)))] [.int (lo8 (cv A (o + i))), .int (Int32.ofNat (q + i)), .ref d])) rfl (rest := []) rfl (hb hbytes d31)
      have c8 : Steps p.tables e below (s₁.setTop (entryFrame m #[.ref b, .int (Int32.ofNat o), .ref d, .int (Int32.ofNat q), .int (Int32.ofNat len)] 7)) (T7.setTop (mkF m 32 #[.val (.ref b), .val (.int (Int32.ofNat (o + i))), .val (.ref d), .val (.int (Int32.ofNat (q + i))), .val (.int (Int32.ofNat len)), .val (.int (Int32.ofNat i)), .val (.int (cv A (o + i)))] [])) := c6.trans (st7 _ (Steps.refl _))
      have c9 : Steps p.tables e below (s₁.setTop (entryFrame m #[.ref b, .int (Int32.ofNat o), .ref d, .int (Int32.ofNat q), .int (Int32.ofNat len)] 7)) (T7.setTop (mkF m 3 #[.val (.ref b), .val (.int (Int32.ofNat (o + i) + 1)), .val (.ref d), .val (.int (Int32.ofNat (q + i) + 1)), .val (.int (Int32.ofNat len)), .val (.int (Int32.ofNat i + 1)), .val (.int (cv A (o + i)))] [])) := c8.trans (by
        refine iincV X7.here hexec rfl 1 (hb hbytes d32) (by decide) rfl rfl ?_
        refine iincV X7.here hexec rfl 1 (hb hbytes d35) (by decide) rfl rfl ?_
        refine iincV X7.here hexec rfl 1 (hb hbytes d38) (by decide) rfl rfl ?_
        refine XS.goto X7.here hexec rfl (pc0 := 41) rfl (hb hbytes d41) (by decide) rfl ?_
        exact Steps.refl _)
      have c10 : Steps p.tables e below (s₁.setTop (entryFrame m #[.ref b, .int (Int32.ofNat o), .ref d, .int (Int32.ofNat q), .int (Int32.ofNat len)] 7)) (T7.setTop (mkF m 3 #[.val (.ref b), .val (.int (Int32.ofNat (o + (i + 1)))), .val (.ref d), .val (.int (Int32.ofNat (q + (i + 1)))), .val (.int (Int32.ofNat len)), .val (.int (Int32.ofNat (i + 1))), .val (.int (cv A (o + i)))] [])) := by
        have := c9
        rw [succ32, succ32, succ32] at this
        exact this
      exact ih (i + 1) (by omega) _ (Or.inr ⟨_, rfl, rfl⟩) T7 _ (by rw [copyLocs_step, ← List.append_assoc]; exact X7) (pl.trans p7) (fl.step (by omega) hlt (by simp)) c10
  obtain ⟨T9, B9, z9, X9, p9, f9, g9⟩ := loop len 0 (by omega) .unset (Or.inl rfl) s₁ B (by simpa [copyLocs] using X0) ⟨hB0.1, fun _ _ => rfl, rfl⟩ (Laid.zero _ _ _) c2
  have c11 : Steps p.tables e below (s₁.setTop (entryFrame m #[.ref b, .int (Int32.ofNat o), .ref d, .int (Int32.ofNat q), .int (Int32.ofNat len)] 7)) (T9.setTop (mkF m 46 #[.val (.ref b), .val (.int (Int32.ofNat (o + len))), .val (.ref d), .val (.int (Int32.ofNat (q + len))), .val (.int (Int32.ofNat len)), .val (.int (Int32.ofNat len)), z9] [.int (Int32.ofNat len)])) := g9.trans (by
    refine XS.iload X9.here hexec rfl (hb hbytes d3) rfl ?_
    refine XS.iload X9.here hexec rfl (hb hbytes d5) rfl ?_
    refine XS.icmpYes X9.here hexec rfl (pc0 := 7) rfl (hb hbytes d7) rfl (ii_ge_t (nlt32 (by omega) (Nat.le_refl _))) (by decide) rfl ?_
    refine XS.iload X9.here hexec rfl (hb hbytes d44) rfl ?_
    exact Steps.refl _)
  exact ⟨T9, some (.int (Int32.ofNat len)), _, _, _, X9, by simp, rfl, rfl, (fun h => by cases h), ⟨rfl, B9, p9.from hh0, f9⟩, fun fs hl => c11.trans (X9.ireturnOut hexec hret rfl (Or.inl rfl) (hb hbytes d46) hl)⟩
end Cmp5
namespace Cmp3
def yN : MethodName := ⟨"java/lang/StringUTF16", "compress", "([CII)[B"⟩
abbrev yB : ByteArray := jdk_52_method_16_code
theorem d0 : decode yB 0 = .ok (.iload_n 2, 1) := by decide +kernel
theorem d1 : decode yB 1 = .ok (.newarray .byte, 2) := by decide +kernel
theorem d3 : decode yB 3 = .ok (.astore_n 3, 1) := by decide +kernel
theorem d4 : decode yB 4 = .ok (.aload_n 0, 1) := by decide +kernel
theorem d5 : decode yB 5 = .ok (.iload_n 1, 1) := by decide +kernel
theorem d6 : decode yB 6 = .ok (.aload_n 3, 1) := by decide +kernel
theorem d7 : decode yB 7 = .ok (.iconst 0, 1) := by decide +kernel
theorem d8 : decode yB 8 = .ok (.iload_n 2, 1) := by decide +kernel
theorem d9 : decode yB 9 = .ok (.invokestatic 115, 3) := by decide +kernel
theorem d12 : decode yB 12 = .ok (.istore 4, 2) := by decide +kernel
theorem d14 : decode yB 14 = .ok (.iload 4, 2) := by decide +kernel
theorem d16 : decode yB 16 = .ok (.iload_n 2, 1) := by decide +kernel
theorem d17 : decode yB 17 = .ok (.if_icmp (.eq) 40, 3) := by decide +kernel
theorem d57 : decode yB 57 = .ok (.aload_n 3, 1) := by decide +kernel
theorem d58 : decode yB 58 = .ok (.areturn, 1) := by decide +kernel
def site : List Cond := [.arrayClass .byte, Cmp5.tab] ++ staticW U16 115 Cmp5.yN
def tab : Cond := tabOf yN yB 6 (some (.array .byte)) site
def P (b : Addr) (A : Cell) (o len : Nat) (args : Array Value) (s : State) : Prop := args = #[.ref b, .int (Int32.ofNat o), .int (Int32.ofNat len)] ∧ Ch b A s ∧ o + len ≤ A.slots.size ∧ len ≤ 536870912 ∧ ∀ i, i < len → ¬ 255 < cv A (o + i)
def E (b : Addr) (A : Cell) (o len : Nat) (r : Option Value) (s u : State) : Prop := NewArr .byte "[B" len (fun j => .int (lo8 (cv A (o + j)))) r s u ∧ u.heap.size = s.heap.size + 1
/-- no char of the range above 255: a new byte[] of their low bytes -/
theorem law (l : Launch) (b : Addr) (A : Cell) (o len : Nat) : Law l yN 3 3 1 18 yB 6 (some (.array .byte)) site (P b A o len) (E b A o len) [] 1 len := by
  refine Law.of_walk (plainFor_of_name (by decide +kernel)) (by decide +kernel) (by decide +kernel) (by decide) (fun _ _ h => by rw [h.1]; rfl) (fun _ U U' hal hh h => ⟨h.1, h.2.1.mv hal hh, h.2.2⟩) (fun r U U' V V' h1 hal h2 h => ⟨NewArr.mv r U U' V V' h1 hal h2 h.1, by rw [h1, h2]; exact h.2⟩) ?_
  intro p e s m args below meth c s₁ X0 hexec hbytes hml hret hlk hnm hown hh0 W hP
  obtain ⟨rfl, hA, l1, l2, hp⟩ := hP
  have a31 := hA.1.2.2.2
  have c1 : Steps p.tables e below (s₁.setTop (entryFrame m #[.ref b, .int (Int32.ofNat o), .int (Int32.ofNat len)] 6)) (s₁.setTop (mkF m 0 #[.val (.ref b), .val (.int (Int32.ofNat o)), .val (.int (Int32.ofNat len)), .unset, .unset, .unset] [])) := entry rfl
  have c2 : Steps p.tables e below (s₁.setTop (entryFrame m #[.ref b, .int (Int32.ofNat o), .int (Int32.ofNat len)] 6)) (s₁.setTop (mkF m 1 #[.val (.ref b), .val (.int (Int32.ofNat o)), .val (.int (Int32.ofNat len)), .unset, .unset, .unset] [.int (Int32.ofNat len)])) := c1.trans (by
    refine XS.iloadN X0.here hexec rfl (hb hbytes d0) rfl ?_
    exact Steps.refl _)
  obtain ⟨T3, B3, X3, ba3, bs3, bv3, bh3, bf3, st3⟩ := X0.anew hexec (atype := .byte) (wk W (.arrayClass .byte)) rfl (by show len * 1 ≤ _; omega) (by omega) (g := (mkF m 1 #[.val (.ref b), .val (.int (Int32.ofNat o)), .val (.int (Int32.ofNat len)), .unset, .unset, .unset] [.int (Int32.ofNat len)])) rfl (hb hbytes d1) (rest := []) rfl (Nat.le_refl _) (by show 0 + len ≤ len; omega)
  rw [hh0] at ba3 st3
  have kp3 : XT.Kept s T3 := (XT.Kept.of_eq hh0).push bh3
  have hA3 := hA.keep X3.warmed.alike (kp3 _ _ hA.1.1)
  have hne : b ≠ s.heap.size := hA.1.ne
  have c4 : Steps p.tables e below (s₁.setTop (entryFrame m #[.ref b, .int (Int32.ofNat o), .int (Int32.ofNat len)] 6)) (T3.setTop (mkF m 3 #[.val (.ref b), .val (.int (Int32.ofNat o)), .val (.int (Int32.ofNat len)), .unset, .unset, .unset] [.ref s.heap.size])) := c2.trans (st3 _ (Steps.refl _))
  have c5 : Steps p.tables e below (s₁.setTop (entryFrame m #[.ref b, .int (Int32.ofNat o), .int (Int32.ofNat len)] 6)) (T3.setTop (mkF m 9 #[.val (.ref b), .val (.int (Int32.ofNat o)), .val (.int (Int32.ofNat len)), .val (.ref s.heap.size), .unset, .unset] [.int (Int32.ofNat len), .int 0, .ref s.heap.size, .int (Int32.ofNat o), .ref b])) := c4.trans (by
    refine XS.astoreN X3.here hexec rfl (hb hbytes d3) rfl rfl rfl ?_
    refine XS.aloadN X3.here hexec rfl (hb hbytes d4) rfl rfl ?_
    refine XS.iloadN X3.here hexec rfl (hb hbytes d5) rfl ?_
    refine XS.aloadN X3.here hexec rfl (hb hbytes d6) rfl rfl ?_
    refine iconstV X3.here hexec rfl 0 (hb hbytes d7) (by decide) ?_
    refine XS.iloadN X3.here hexec rfl (hb hbytes d8) rfl ?_
    exact Steps.refl _)
  obtain ⟨v6, T6, X6, E6, g6⟩ := X3.callS hexec (Cmp5.law l b A s.heap.size B3 o 0 len) hown (wks W (staticW U16 115 Cmp5.yN)) (wk W Cmp5.tab) (W := 0) (Nat.le_of_ble_eq_true rfl) (Nat.le_of_ble_eq_true rfl) (Nat.le_refl _) (by show 0 + len + 0 ≤ len; omega) (g := (mkF m 9 #[.val (.ref b), .val (.int (Int32.ofNat o)), .val (.int (Int32.ofNat len)), .val (.ref s.heap.size), .unset, .unset] [.int (Int32.ofNat len), .int (Int32.ofNat 0), .ref s.heap.size, .int (Int32.ofNat o), .ref b])) rfl (by rw [hml]; rfl) c5 (argsL := [.ref b, .int (Int32.ofNat o), .ref s.heap.size, .int (Int32.ofNat 0), .int (Int32.ofNat len)]) (rest := []) rfl rfl (by show 2 * 0 + 0 ≤ _; decide) (hb hbytes d9) (⟨rfl, hA3, ba3, hne, l1, by rw [bs3]; simp, hp⟩)
  obtain ⟨rfl, B6, p6, f6⟩ := E6
  have c7 : Steps p.tables e below (s₁.setTop (entryFrame m #[.ref b, .int (Int32.ofNat o), .int (Int32.ofNat len)] 6)) (T6.setTop (mkF m 12 #[.val (.ref b), .val (.int (Int32.ofNat o)), .val (.int (Int32.ofNat len)), .val (.ref s.heap.size), .unset, .unset] [.int (Int32.ofNat len)])) := g6
  have c8 : Steps p.tables e below (s₁.setTop (entryFrame m #[.ref b, .int (Int32.ofNat o), .int (Int32.ofNat len)] 6)) (T6.setTop (mkF m 58 #[.val (.ref b), .val (.int (Int32.ofNat o)), .val (.int (Int32.ofNat len)), .val (.ref s.heap.size), .val (.int (Int32.ofNat len)), .unset] [.ref s.heap.size])) := c7.trans (by
    refine XS.istore X6.here hexec rfl (hb hbytes d12) rfl rfl ?_
    refine XS.iload X6.here hexec rfl (hb hbytes d14) rfl ?_
    refine XS.iloadN X6.here hexec rfl (hb hbytes d16) rfl ?_
    refine XS.icmpYes X6.here hexec rfl (pc0 := 17) rfl (hb hbytes d17) rfl (ii_eq_t rfl) (by decide) rfl ?_
    refine XS.aloadN X6.here hexec rfl (hb hbytes d57) rfl rfl ?_
    exact Steps.refl _)
  have X8 := X6.wide (L' := []) (cells' := 1) (slots' := len) (fun x hx hlt => by
    simp only [List.nil_append, copyLocs, List.mem_map, List.mem_range] at hx
    obtain ⟨i, -, rfl⟩ := hx
    exact absurd hlt (Nat.lt_irrefl _)) (Nat.le_refl _) (by omega)
  exact ⟨T6, some (.ref s.heap.size), _, _, _, X8, rfl, rfl, rfl, (fun h => by cases h), ⟨⟨rfl, B6, ba3.like (X3.warmed.alike.symm.trans X6.warmed.alike) p6.1 f6.1 f6.2.1 f6.2.2.1, f6.2.1.trans bv3, by rw [X6.warmed.alike.findClass, f6.1]; exact bf3, by rw [f6.2.2.1, bs3]; simp, fun j hj => by rw [f6.2.2.2 j, if_pos (by omega)]; rfl, kp3.put p6 (Nat.le_refl _)⟩, by rw [p6.2.2, bh3, hh0]; simp⟩, fun fs hl => c8.trans (X8.areturnOut hexec rfl hret rfl (hb hbytes d58) hl)⟩
end Cmp3
namespace CodL
def yN : MethodName := ⟨"java/lang/StringUTF16", "coderFromArrayLen", "([BI)B"⟩
abbrev yB : ByteArray := jdk_52_method_15_code
theorem d0 : decode yB 0 = .ok (.iload_n 1, 1) := by decide +kernel
theorem d1 : decode yB 1 = .ok (.aload_n 0, 1) := by decide +kernel
theorem d2 : decode yB 2 = .ok (.arraylength, 1) := by decide +kernel
theorem d3 : decode yB 3 = .ok (.isub, 1) := by decide +kernel
theorem d4 : decode yB 4 = .ok (.bipush 31, 2) := by decide +kernel
theorem d6 : decode yB 6 = .ok (.iushr, 1) := by decide +kernel
theorem d7 : decode yB 7 = .ok (.i2b, 1) := by decide +kernel
theorem d8 : decode yB 8 = .ok (.ireturn, 1) := by decide +kernel
def site : List Cond := []
def tab : Cond := tabOf yN yB 2 (some .byte) site
def P (d : Addr) (B : Cell) (args : Array Value) (s : State) : Prop := args = #[.ref d, .int (Int32.ofNat B.slots.size)] ∧ Arr .byte d B s
def E (r : Option Value) (s u : State) : Prop := XT.PureE (some (.int 0)) r s u
/-- an array as long as the number of chars: LATIN1 -/
theorem law (l : Launch) (d : Addr) (B : Cell) : Law l yN 2 2 0 0 yB 2 (some .byte) site (P d B) E [] 0 0 := by
  refine Law.of_walk (plainFor_of_name (by decide +kernel)) (by decide +kernel) (by decide +kernel) (by decide) (fun _ _ h => by rw [h.1]; rfl) (fun _ U U' hal hh h => ⟨h.1, h.2.mv hal hh⟩) (fun r U U' V V' h1 hal h2 h => XT.PureE.mv r U U' V V' h1 hal h2 h) ?_
  intro p e s m args below meth c s₁ X0 hexec hbytes hml hret hlk hnm hown hh0 W hP
  obtain ⟨rfl, hB⟩ := hP
  have hB0 := hB.mv X0.warmed.alike hh0
  have c1 : Steps p.tables e below (s₁.setTop (entryFrame m #[.ref d, .int (Int32.ofNat B.slots.size)] 2)) (s₁.setTop (mkF m 0 #[.val (.ref d), .val (.int (Int32.ofNat B.slots.size))] [])) := entry rfl
  have c2 : Steps p.tables e below (s₁.setTop (entryFrame m #[.ref d, .int (Int32.ofNat B.slots.size)] 2)) (s₁.setTop (mkF m 2 #[.val (.ref d), .val (.int (Int32.ofNat B.slots.size))] [.ref d, .int (Int32.ofNat B.slots.size)])) := c1.trans (by
    refine XS.iloadN X0.here hexec rfl (hb hbytes d0) rfl ?_
    refine XS.aloadN X0.here hexec rfl (hb hbytes d1) rfl rfl ?_
    exact Steps.refl _)
  have c3 : Steps p.tables e below (s₁.setTop (entryFrame m #[.ref d, .int (Int32.ofNat B.slots.size)] 2)) (s₁.setTop (mkF m 8 #[.val (.ref d), .val (.int (Int32.ofNat B.slots.size))] [.int (lo8 (ushr (Int32.ofNat B.slots.size - Int32.ofNat B.slots.size) 31))])) := c2.trans (by
    refine X0.alen hexec hB0 rfl rfl (hb hbytes d2) ?_
    refine XS.isub X0.here hexec rfl (hb hbytes d3) rfl ?_
    refine bipushV X0.here hexec rfl 31 (hb hbytes d4) (by decide) ?_
    refine iushr X0.here hexec rfl (hb hbytes d6) rfl ?_
    refine i2b X0.here hexec rfl (hb hbytes d7) rfl ?_
    exact Steps.refl _)
  have e0 : lo8 (ushr (Int32.ofNat B.slots.size - Int32.ofNat B.slots.size) 31) = 0 := by rw [Int32.sub_self]; decide
  rw [e0] at c3
  exact ⟨s₁, some (.int 0), _, _, _, X0, rfl, rfl, rfl, (fun h => by cases h), ⟨rfl, hh0⟩, fun fs hl => c3.trans (X0.ireturnOut hexec hret rfl (Or.inr (Or.inr (Or.inl rfl))) (hb hbytes d8) hl)⟩
end CodL
/-- the String at a is Latin-1 over a new byte[] (the heap's one new cell): the low bytes of the len chars of A from o on; every cell but a is kept -/
def Got (a : Addr) (D : Cell) (fV fC : Field) (A : Cell) (o len : Nat) (r : Option Value) (s u : State) : Prop := r = none ∧ ∃ D' V : Cell, Blank "java/lang/String" a D' u ∧ Same D D' [fV.slot, fC.slot] ∧ D'.slots[fV.slot]? = some (.ref s.heap.size) ∧ D'.slots[fC.slot]? = some (.int 0) ∧ Arr .byte s.heap.size V u ∧ V.vm = .none ∧ u.vm.findClass "[B" = some V.cls ∧ V.slots.size = len ∧ (∀ j, j < len → V.slots[j]? = some (.int (lo8 (cv A (o + j))))) ∧ (∀ (y : Addr) (c : Cell), y ≠ a → s.heap[y]? = some c → u.heap[y]? = some c) ∧ u.heap.size = s.heap.size + 1
theorem Got.mv {a : Addr} {D A : Cell} {fV fC : Field} {o len : Nat} : ∀ r (U U' V V' : State), U'.heap = U.heap → V.vm.Alike V'.vm → V'.heap = V.heap → Got a D fV fC A o len r U V → Got a D fV fC A o len r U' V' :=
  fun r U U' V V' h1 hal h2 ⟨e0, D', X, a1, a2, a3, a4, a5, a6, a7, a8, a9, a10, a11⟩ => ⟨e0, D', X, a1.mv hal h2, a2, by rw [h1]; exact a3, a4, by rw [h1]; exact a5.mv hal h2, a6, by rw [hal.findClass]; exact a7, a8, a9, by rw [h1, h2]; exact a10, by rw [h1, h2]; exact a11⟩
namespace New4
def yN : MethodName := ⟨"java/lang/String", "<init>", "([CIILjava/lang/Void;)V"⟩
abbrev yB : ByteArray := jdk_42_method_149_code
theorem d0 : decode yB 0 = .ok (.aload_n 0, 1) := by decide +kernel
theorem d1 : decode yB 1 = .ok (.invokespecial 1, 3) := by decide +kernel
theorem d4 : decode yB 4 = .ok (.iload_n 3, 1) := by decide +kernel
theorem d5 : decode yB 5 = .ok (.ifCond (.ne) 22, 3) := by decide +kernel
theorem d27 : decode yB 27 = .ok (.getstatic 38, 3) := by decide +kernel
theorem d30 : decode yB 30 = .ok (.ifCond (.eq) 28, 3) := by decide +kernel
theorem d33 : decode yB 33 = .ok (.aload_n 1, 1) := by decide +kernel
theorem d34 : decode yB 34 = .ok (.iload_n 2, 1) := by decide +kernel
theorem d35 : decode yB 35 = .ok (.iload_n 3, 1) := by decide +kernel
theorem d36 : decode yB 36 = .ok (.invokestatic 177, 3) := by decide +kernel
theorem d39 : decode yB 39 = .ok (.astore 5, 2) := by decide +kernel
theorem d41 : decode yB 41 = .ok (.aload_n 0, 1) := by decide +kernel
theorem d42 : decode yB 42 = .ok (.aload 5, 2) := by decide +kernel
theorem d44 : decode yB 44 = .ok (.iload_n 3, 1) := by decide +kernel
theorem d45 : decode yB 45 = .ok (.invokestatic 47, 3) := by decide +kernel
theorem d48 : decode yB 48 = .ok (.putfield 15, 3) := by decide +kernel
theorem d51 : decode yB 51 = .ok (.aload_n 0, 1) := by decide +kernel
theorem d52 : decode yB 52 = .ok (.aload 5, 2) := by decide +kernel
theorem d54 : decode yB 54 = .ok (.putfield 9, 3) := by decide +kernel
theorem d57 : decode yB 57 = .ok (.return_, 1) := by decide +kernel
def site : List Cond := [.fieldLink "java/lang/String" 38 "java/lang/String" "COMPACT_STRINGS" "Z", Cmp3.tab, CodL.tab, .laysFinal "java/lang/String" "java/lang/String" "value" "[B", .fieldLink "java/lang/String" 9 "java/lang/String" "value" "[B", .laysFinal "java/lang/String" "java/lang/String" "coder" "B", .fieldLink "java/lang/String" 15 "java/lang/String" "coder" "B"] ++ objW "java/lang/String" 1 ++ staticW "java/lang/String" 177 Cmp3.yN ++ staticW "java/lang/String" 47 CodL.yN
def tab : Cond := tabOf yN yB 6 none site
def P (a : Addr) (D : Cell) (fV fC : Field) (b : Addr) (A : Cell) (z : Int32) (o len : Nat) (args : Array Value) (s : State) : Prop := args = #[.ref a, .ref b, .int (Int32.ofNat o), .int (Int32.ofNat len), .null] ∧ Blank "java/lang/String" a D s ∧ Found "java/lang/String" "value" "[B" fV s ∧ Found "java/lang/String" "coder" "B" fC s ∧ Ch b A s ∧ StaticIs s "java/lang/String" "COMPACT_STRINGS" "Z" (.int z) ∧ ¬ z = 0 ∧ 0 < len ∧ o + len ≤ A.slots.size ∧ len ≤ 536870912 ∧ ∀ i, i < len → ¬ 255 < cv A (o + i)
def E (a : Addr) (D : Cell) (fV fC : Field) (A : Cell) (o len : Nat) (r : Option Value) (s u : State) : Prop := Got a D fV fC A o len r s u
/-- len > 0, no char of the range above 255: a Latin-1 String of their low bytes -/
theorem law (l : Launch) (a : Addr) (D : Cell) (fV fC : Field) (b : Addr) (A : Cell) (z : Int32) (o len : Nat) : Law l yN 5 4 2 35 yB 6 none site (P a D fV fC b A z o len) (E a D fV fC A o len) [⟨a, fC.slot⟩, ⟨a, fV.slot⟩] 1 len := by
  refine Law.of_walk (plainFor_of_name (by decide +kernel)) (by decide +kernel) (by decide +kernel) (by decide) (fun _ _ h => by rw [h.1]; rfl) (fun _ U U' hal hh h => ⟨h.1, h.2.1.mv hal hh, h.2.2.1.al hal, h.2.2.2.1.al hal, h.2.2.2.2.1.mv hal hh, h.2.2.2.2.2.1.there hal hh, h.2.2.2.2.2.2⟩) (fun r U U' V V' h1 hal h2 h => Got.mv r U U' V V' h1 hal h2 h) ?_
  intro p e s m args below meth c s₁ X0 hexec hbytes hml hret hlk hnm hown hh0 W hP
  obtain ⟨rfl, hB, f1, f2, hA, s1, hz, l0, l1, l2, hp⟩ := hP
  have a31 := hA.1.2.2.2
  have c1 : Steps p.tables e below (s₁.setTop (entryFrame m #[.ref a, .ref b, .int (Int32.ofNat o), .int (Int32.ofNat len), .null] 6)) (s₁.setTop (mkF m 0 #[.val (.ref a), .val (.ref b), .val (.int (Int32.ofNat o)), .val (.int (Int32.ofNat len)), .val .null, .unset] [])) := entry rfl
  have c2 : Steps p.tables e below (s₁.setTop (entryFrame m #[.ref a, .ref b, .int (Int32.ofNat o), .int (Int32.ofNat len), .null] 6)) (s₁.setTop (mkF m 1 #[.val (.ref a), .val (.ref b), .val (.int (Int32.ofNat o)), .val (.int (Int32.ofNat len)), .val .null, .unset] [.ref a])) := c1.trans (by
    refine XS.aloadN X0.here hexec rfl (hb hbytes d0) rfl rfl ?_
    exact Steps.refl _)
  obtain ⟨T3, X3, q3, st3⟩ := X0.oinit hexec hown (wks W (objW "java/lang/String" 1)) (g := (mkF m 1 #[.val (.ref a), .val (.ref b), .val (.int (Int32.ofNat o)), .val (.int (Int32.ofNat len)), .val .null, .unset] [.ref a])) rfl (by rw [hml]; rfl) (rest := []) rfl (hb hbytes d1) (W := 0) (by show 2 * 0 + 0 ≤ _; decide) (Nat.le_of_ble_eq_true rfl) (Nat.le_of_ble_eq_true rfl)
  have hh3 := q3.trans hh0
  have c4 : Steps p.tables e below (s₁.setTop (entryFrame m #[.ref a, .ref b, .int (Int32.ofNat o), .int (Int32.ofNat len), .null] 6)) (T3.setTop (mkF m 27 #[.val (.ref a), .val (.ref b), .val (.int (Int32.ofNat o)), .val (.int (Int32.ofNat len)), .val .null, .unset] [])) := (c2.trans (st3 _ (Steps.refl _))).trans (by
    refine XS.iloadN X3.here hexec rfl (hb hbytes d4) rfl ?_
    refine XS.ifYes X3.here hexec rfl (pc0 := 5) rfl (hb hbytes d5) rfl (i0_ne_t (nz32 (by omega) l0)) (by decide) rfl ?_
    exact Steps.refl _)
  obtain ⟨T5, X5, q5, st5⟩ := X3.sget hexec hown (wk W (.fieldLink "java/lang/String" 38 "java/lang/String" "COMPACT_STRINGS" "Z")) s1 (fun _ _ h => by rw [hh3]; exact h) (g := (mkF m 27 #[.val (.ref a), .val (.ref b), .val (.int (Int32.ofNat o)), .val (.int (Int32.ofNat len)), .val .null, .unset] [])) rfl (hb hbytes d27)
  have hh5 := q5.trans hh3
  have c6 : Steps p.tables e below (s₁.setTop (entryFrame m #[.ref a, .ref b, .int (Int32.ofNat o), .int (Int32.ofNat len), .null] 6)) (T5.setTop (mkF m 30 #[.val (.ref a), .val (.ref b), .val (.int (Int32.ofNat o)), .val (.int (Int32.ofNat len)), .val .null, .unset] [.int z])) := c4.trans (st5 _ (Steps.refl _))
  have c7 : Steps p.tables e below (s₁.setTop (entryFrame m #[.ref a, .ref b, .int (Int32.ofNat o), .int (Int32.ofNat len), .null] 6)) (T5.setTop (mkF m 36 #[.val (.ref a), .val (.ref b), .val (.int (Int32.ofNat o)), .val (.int (Int32.ofNat len)), .val .null, .unset] [.int (Int32.ofNat len), .int (Int32.ofNat o), .ref b])) := c6.trans (by
    refine XS.ifNo X5.here hexec rfl (hb hbytes d30) rfl (i0_eq_f hz) ?_
    refine XS.aloadN X5.here hexec rfl (hb hbytes d33) rfl rfl ?_
    refine XS.iloadN X5.here hexec rfl (hb hbytes d34) rfl ?_
    refine XS.iloadN X5.here hexec rfl (hb hbytes d35) rfl ?_
    exact Steps.refl _)
  obtain ⟨v8, T8, X8, E8, g8⟩ := X5.callS hexec (Cmp3.law l b A o len) hown (wks W (staticW "java/lang/String" 177 Cmp3.yN)) (wk W Cmp3.tab) (W := 0) (Nat.le_of_ble_eq_true rfl) (Nat.le_of_ble_eq_true rfl) (Nat.le_refl _) (by show 0 + len ≤ len; omega) (g := (mkF m 36 #[.val (.ref a), .val (.ref b), .val (.int (Int32.ofNat o)), .val (.int (Int32.ofNat len)), .val .null, .unset] [.int (Int32.ofNat len), .int (Int32.ofNat o), .ref b])) rfl (by rw [hml]; rfl) c7 (argsL := [.ref b, .int (Int32.ofNat o), .int (Int32.ofNat len)]) (rest := []) rfl rfl (by show 2 * 0 + 0 ≤ _; decide) (hb hbytes d36) (⟨rfl, hA.mv X5.warmed.alike hh5, l1, l2, hp⟩)
  obtain ⟨e8, z8⟩ := E8
  obtain ⟨rfl, N, n1, n2, n3, n4, n5, n6⟩ := NewArr.mv _ T5 s _ _ hh5.symm (Vm.Alike.refl _) rfl e8
  rw [hh5] at z8
  have hB1 := hB.keep X8.warmed.alike (n6 _ _ hB.1)
  have hne : s.heap.size ≠ a := (Nat.ne_of_lt (Array.getElem?_eq_some_iff.mp hB.1).1).symm
  have c9 : Steps p.tables e below (s₁.setTop (entryFrame m #[.ref a, .ref b, .int (Int32.ofNat o), .int (Int32.ofNat len), .null] 6)) (T8.setTop (mkF m 39 #[.val (.ref a), .val (.ref b), .val (.int (Int32.ofNat o)), .val (.int (Int32.ofNat len)), .val .null, .unset] [.ref s.heap.size])) := g8
  have c10 : Steps p.tables e below (s₁.setTop (entryFrame m #[.ref a, .ref b, .int (Int32.ofNat o), .int (Int32.ofNat len), .null] 6)) (T8.setTop (mkF m 45 #[.val (.ref a), .val (.ref b), .val (.int (Int32.ofNat o)), .val (.int (Int32.ofNat len)), .val .null, .val (.ref s.heap.size)] [.int (Int32.ofNat N.slots.size), .ref s.heap.size, .ref a])) := by
    have hc : Steps p.tables e below (s₁.setTop (entryFrame m #[.ref a, .ref b, .int (Int32.ofNat o), .int (Int32.ofNat len), .null] 6)) (T8.setTop (mkF m 45 #[.val (.ref a), .val (.ref b), .val (.int (Int32.ofNat o)), .val (.int (Int32.ofNat len)), .val .null, .val (.ref s.heap.size)] [.int (Int32.ofNat len), .ref s.heap.size, .ref a])) := c9.trans (by
      refine XS.astore X8.here hexec rfl (hb hbytes d39) rfl rfl rfl ?_
      refine XS.aloadN X8.here hexec rfl (hb hbytes d41) rfl rfl ?_
      refine XS.aload X8.here hexec rfl (hb hbytes d42) rfl rfl ?_
      refine XS.iloadN X8.here hexec rfl (hb hbytes d44) rfl ?_
      exact Steps.refl _)
    rw [n4]; exact hc
  obtain ⟨v11, T11, X11, E11, g11⟩ := X8.callS hexec (CodL.law l s.heap.size N) hown (wks W (staticW "java/lang/String" 47 CodL.yN)) (wk W CodL.tab) (W := 1) (Nat.le_of_ble_eq_true rfl) (Nat.le_of_ble_eq_true rfl) (Nat.le_refl _) (by show 0 + len + 0 ≤ len; omega) (g := (mkF m 45 #[.val (.ref a), .val (.ref b), .val (.int (Int32.ofNat o)), .val (.int (Int32.ofNat len)), .val .null, .val (.ref s.heap.size)] [.int (Int32.ofNat N.slots.size), .ref s.heap.size, .ref a])) rfl (by rw [hml]; rfl) c10 (argsL := [.ref s.heap.size, .int (Int32.ofNat N.slots.size)]) (rest := [.ref a]) rfl rfl (by show 2 * 0 + (1 + 0) ≤ _; decide) (hb hbytes d45) (⟨rfl, n1⟩)
  obtain ⟨rfl, q11⟩ := E11
  have hB11 := hB1.mv (X8.warmed.alike.symm.trans X11.warmed.alike) q11
  have c12 : Steps p.tables e below (s₁.setTop (entryFrame m #[.ref a, .ref b, .int (Int32.ofNat o), .int (Int32.ofNat len), .null] 6)) (T11.setTop (mkF m 48 #[.val (.ref a), .val (.ref b), .val (.int (Int32.ofNat o)), .val (.int (Int32.ofNat len)), .val .null, .val (.ref s.heap.size)] [.int 0, .ref a])) := g11
  obtain ⟨T13, X13, p13, bl13, sl13, st13⟩ := X11.finit hexec hown (wk W (.fieldLink "java/lang/String" 15 "java/lang/String" "coder" "B")) (Or.inr ⟨_, (wk W (.laysFinal "java/lang/String" "java/lang/String" "coder" "B"))⟩) (Or.inl ⟨rfl, hnm⟩) f2 (Or.inl rfl) hB11 (t := .byte) (by decide +kernel) rfl (g := (mkF m 48 #[.val (.ref a), .val (.ref b), .val (.int (Int32.ofNat o)), .val (.int (Int32.ofNat len)), .val .null, .val (.ref s.heap.size)] [.int 0, .ref a])) rfl (rest := []) rfl (hb hbytes d48)
  have c14 : Steps p.tables e below (s₁.setTop (entryFrame m #[.ref a, .ref b, .int (Int32.ofNat o), .int (Int32.ofNat len), .null] 6)) (T13.setTop (mkF m 54 #[.val (.ref a), .val (.ref b), .val (.int (Int32.ofNat o)), .val (.int (Int32.ofNat len)), .val .null, .val (.ref s.heap.size)] [.ref s.heap.size, .ref a])) := (c12.trans (st13 _ (Steps.refl _))).trans (by
    refine XS.aloadN X13.here hexec rfl (hb hbytes d51) rfl rfl ?_
    refine XS.aload X13.here hexec rfl (hb hbytes d52) rfl rfl ?_
    exact Steps.refl _)
  obtain ⟨T15, X15, p15, bl15, sl15, st15⟩ := X13.finit hexec hown (wk W (.fieldLink "java/lang/String" 9 "java/lang/String" "value" "[B")) (Or.inr ⟨_, (wk W (.laysFinal "java/lang/String" "java/lang/String" "value" "[B"))⟩) (Or.inl ⟨rfl, hnm⟩) f1 (Or.inl rfl) bl13 (t := (.array .byte)) (by decide +kernel) rfl (g := (mkF m 54 #[.val (.ref a), .val (.ref b), .val (.int (Int32.ofNat o)), .val (.int (Int32.ofNat len)), .val .null, .val (.ref s.heap.size)] [.ref s.heap.size, .ref a])) rfl (rest := []) rfl (hb hbytes d54)
  have c16 : Steps p.tables e below (s₁.setTop (entryFrame m #[.ref a, .ref b, .int (Int32.ofNat o), .int (Int32.ofNat len), .null] 6)) (T15.setTop (mkF m 57 #[.val (.ref a), .val (.ref b), .val (.int (Int32.ofNat o)), .val (.int (Int32.ofNat len)), .val .null, .val (.ref s.heap.size)] [])) := c14.trans (st15 _ (Steps.refl _))
  have ap := apart (Or.inr ⟨_, (wk W (.laysFinal "java/lang/String" "java/lang/String" "value" "[B"))⟩) (Or.inr ⟨_, (wk W (.laysFinal "java/lang/String" "java/lang/String" "coder" "B"))⟩) f1 f2 (t₁ := .array .byte) (t₂ := .byte) (by decide +kernel) (by decide +kernel) (by decide)
  have al := X8.warmed.alike.symm.trans X15.warmed.alike
  have n7 : T11.heap[s.heap.size]? = some N := by rw [q11]; exact n1.1
  exact ⟨T15, none, _, _, _, X15, by simp, rfl, by omega, (fun _ => rfl), ⟨rfl, _, N, bl15, ((Same.refl D _).set _ (by simp)).set _ (by simp), sl15, (Cell.slots_setSlot_ne _ ap).trans sl13, n1.keep al (p15.other hne (p13.other hne n7)), n2, by rw [al.findClass]; exact n3, n4, n5, fun y c h1 h2 => p15.other h1 (p13.other h1 (by rw [q11]; exact n6 y c h2)), by rw [p15.2.2, p13.2.2, q11]; exact z8⟩, fun fs hl => c16.trans (X15.returnOut hexec hret (hb hbytes d57) hl)⟩
end New4
namespace New1
def yN : MethodName := ⟨"java/lang/String", "<init>", "([C)V"⟩
abbrev yB : ByteArray := jdk_42_method_3_code
theorem d0 : decode yB 0 = .ok (.aload_n 0, 1) := by decide +kernel
theorem d1 : decode yB 1 = .ok (.aload_n 1, 1) := by decide +kernel
theorem d2 : decode yB 2 = .ok (.iconst 0, 1) := by decide +kernel
theorem d3 : decode yB 3 = .ok (.aload_n 1, 1) := by decide +kernel
theorem d4 : decode yB 4 = .ok (.arraylength, 1) := by decide +kernel
theorem d5 : decode yB 5 = .ok (.aconst_null, 1) := by decide +kernel
theorem d6 : decode yB 6 = .ok (.invokespecial 27, 3) := by decide +kernel
theorem d9 : decode yB 9 = .ok (.return_, 1) := by decide +kernel
def site : List Cond := [New4.tab] ++ initW "java/lang/String" 27 New4.yN
def tab : Cond := tabOf yN yB 2 none site
def P (a : Addr) (D : Cell) (fV fC : Field) (b : Addr) (A : Cell) (z : Int32) (args : Array Value) (s : State) : Prop := args = #[.ref a, .ref b] ∧ Blank "java/lang/String" a D s ∧ Found "java/lang/String" "value" "[B" fV s ∧ Found "java/lang/String" "coder" "B" fC s ∧ Ch b A s ∧ StaticIs s "java/lang/String" "COMPACT_STRINGS" "Z" (.int z) ∧ ¬ z = 0 ∧ 0 < A.slots.size ∧ A.slots.size ≤ 536870912 ∧ ∀ i, i < A.slots.size → ¬ 255 < cv A i
def E (a : Addr) (D : Cell) (fV fC : Field) (A : Cell) (r : Option Value) (s u : State) : Prop := Got a D fV fC A 0 A.slots.size r s u
/-- new String(chars), not empty, no char above 255: a Latin-1 String of their low bytes -/
theorem law (l : Launch) (a : Addr) (D : Cell) (fV fC : Field) (b : Addr) (A : Cell) (z : Int32) : Law l yN 2 1 3 52 yB 2 none site (P a D fV fC b A z) (E a D fV fC A) [⟨a, fC.slot⟩, ⟨a, fV.slot⟩] 1 A.slots.size := by
  refine Law.of_walk (plainFor_of_name (by decide +kernel)) (by decide +kernel) (by decide +kernel) (by decide) (fun _ _ h => by rw [h.1]; rfl) (fun _ U U' hal hh h => ⟨h.1, h.2.1.mv hal hh, h.2.2.1.al hal, h.2.2.2.1.al hal, h.2.2.2.2.1.mv hal hh, h.2.2.2.2.2.1.there hal hh, h.2.2.2.2.2.2⟩) (fun r U U' V V' h1 hal h2 h => Got.mv r U U' V V' h1 hal h2 h) ?_
  intro p e s m args below meth c s₁ X0 hexec hbytes hml hret hlk hnm hown hh0 W hP
  obtain ⟨rfl, hB, f1, f2, hA, s1, hz, l0, l2, hp⟩ := hP
  have c1 : Steps p.tables e below (s₁.setTop (entryFrame m #[.ref a, .ref b] 2)) (s₁.setTop (mkF m 0 #[.val (.ref a), .val (.ref b)] [])) := entry rfl
  have c2 : Steps p.tables e below (s₁.setTop (entryFrame m #[.ref a, .ref b] 2)) (s₁.setTop (mkF m 6 #[.val (.ref a), .val (.ref b)] [.null, .int (Int32.ofNat A.slots.size), .int 0, .ref b, .ref a])) := c1.trans (by
    refine XS.aloadN X0.here hexec rfl (hb hbytes d0) rfl rfl ?_
    refine XS.aloadN X0.here hexec rfl (hb hbytes d1) rfl rfl ?_
    refine iconstV X0.here hexec rfl 0 (hb hbytes d2) (by decide) ?_
    refine XS.aloadN X0.here hexec rfl (hb hbytes d3) rfl rfl ?_
    refine X0.alen hexec (hA.1.mv X0.warmed.alike hh0) rfl rfl (hb hbytes d4) ?_
    refine XS.aconstNull X0.here hexec rfl (hb hbytes d5) ?_
    exact Steps.refl _)
  obtain ⟨v3, T3, X3, E3, g3⟩ := X0.callN hexec (New4.law l a D fV fC b A z 0 A.slots.size) rfl hown (wks W (initW "java/lang/String" 27 New4.yN)) (W New4.tab (by simp only [site, List.mem_cons, List.mem_append, true_or, or_true])) (W := 0) (Nat.le_of_ble_eq_true rfl) (Nat.le_of_ble_eq_true rfl) (Nat.le_refl _) (by show 0 + A.slots.size ≤ A.slots.size; omega) (g := (mkF m 6 #[.val (.ref a), .val (.ref b)] [.null, .int (Int32.ofNat A.slots.size), .int (Int32.ofNat 0), .ref b, .ref a])) rfl (by rw [hml]; rfl) c2 (argsL := [.ref b, .int (Int32.ofNat 0), .int (Int32.ofNat A.slots.size), .null]) (rest := []) rfl rfl (by show 2 * 0 + 0 ≤ _; decide) (hb hbytes d6) (⟨rfl, hB.mv X0.warmed.alike hh0, f1.al X0.warmed.alike, f2.al X0.warmed.alike, hA.mv X0.warmed.alike hh0, s1.there X0.warmed.alike hh0, hz, l0, by omega, l2, fun i hi => by rw [Nat.zero_add]; exact hp i hi⟩)
  have e0 := Got.mv _ s₁ s _ _ hh0.symm (Vm.Alike.refl _) rfl E3
  obtain rfl := e0.1
  have c4 : Steps p.tables e below (s₁.setTop (entryFrame m #[.ref a, .ref b] 2)) (T3.setTop (mkF m 9 #[.val (.ref a), .val (.ref b)] [])) := g3
  exact ⟨T3, none, _, _, _, X3, by simp, rfl, by omega, (fun _ => rfl), e0, fun fs hl => c4.trans (X3.returnOut hexec hret (hb hbytes d9) hl)⟩
theorem pays {l : Launch} {R : Room} {p : Program} {e : Env} {below : List Frame} {s : State} {sargs : Array Value} {len W : Nat} (a : Addr) (D : Cell) (fV fC : Field) (b : Addr) (A : Cell) (z : Int32) (htab : tab.before sargs s = true) (hfr : 4 ≤ R.frames) (hlo : W + 65 ≤ R.locals) :
    Back l R p e below s sargs yN len W (fun A₁ a₁ => A₁.cells + 1 ≤ R.cells ∧ A₁.slots + A.slots.size ≤ R.slots ∧ P a D fV fC b A z a₁ A₁.U) (fun A₁ _ v₁ B₁ => E a D fV fC A v₁ A₁.U B₁.U ∧ B₁.locs = A₁.locs ++ [⟨a, fC.slot⟩, ⟨a, fV.slot⟩] ∧ B₁.cells = A₁.cells + 1 ∧ B₁.slots = A₁.slots + A.slots.size) :=
  (law l a D fV fC b A z).pays htab hfr (by omega)
end New1
end StrChars
namespace StrChars.Road
open Jvm Sem ClassFile Op Lib Jvm.Stand Jvm.Free Jvm.Free.XT
open Jvm.Lib.Cold (StaticIs)
abbrev ST : String := "java/lang/String"
/-- every table word that New1's law asks, flat -/
abbrev words : List Jvm.Cond := [.code New1.yN New1.yB 2 none, .initialized ST, .methodLink ST 27 New4.yN, .instanceMethod New4.yN,
  .code New4.yN New4.yB 6 none, .fieldLink ST 38 ST "COMPACT_STRINGS" "Z", .laysFinal ST ST "value" "[B", .fieldLink ST 9 ST "value" "[B", .laysFinal ST ST "coder" "B", .fieldLink ST 15 ST "coder" "B",
  .methodLink ST 1 Lib.objectInit, .instanceMethod Lib.objectInit, .code Lib.objectInit ⟨#[0xb1]⟩ 1 none, .methodLink ST 177 Cmp3.yN, .static Cmp3.yN, .methodLink ST 47 CodL.yN, .static CodL.yN,
  .code Cmp3.yN Cmp3.yB 6 (some (.array .byte)), .initialized U16, .arrayClass .byte, .methodLink U16 115 Cmp5.yN, .static Cmp5.yN, .code Cmp5.yN Cmp5.yB 7 (some .int), .code CodL.yN CodL.yB 2 (some .byte)]
theorem tab_of {a : Array Value} {s : State} (h : ∀ w ∈ words, w.before a s = true) : New1.tab.before a s = true := by
  have h5 : Cmp5.tab.before a s = true := unparts (wk h (.code Cmp5.yN Cmp5.yB 7 (some .int))) (wks h (.initialized Cmp5.yN.cls :: Cmp5.site))
  have hc : CodL.tab.before a s = true := unparts (wk h (.code CodL.yN CodL.yB 2 (some .byte))) (wks h (.initialized CodL.yN.cls :: CodL.site))
  have q5 : ∀ w ∈ Cmp5.tab :: words, w.before a s = true := fun w hw => (List.mem_cons.mp hw).elim (fun e => e ▸ h5) (h w)
  have h3 : Cmp3.tab.before a s = true := unparts (wk q5 (.code Cmp3.yN Cmp3.yB 6 (some (.array .byte)))) (wks q5 (.initialized Cmp3.yN.cls :: Cmp3.site))
  have q3 : ∀ w ∈ Cmp3.tab :: CodL.tab :: words, w.before a s = true := fun w hw => (List.mem_cons.mp hw).elim (fun e => e ▸ h3) fun hw => (List.mem_cons.mp hw).elim (fun e => e ▸ hc) (h w)
  have h4 : New4.tab.before a s = true := unparts (wk q3 (.code New4.yN New4.yB 6 none)) (wks q3 (.initialized New4.yN.cls :: New4.site))
  have q4 : ∀ w ∈ New4.tab :: words, w.before a s = true := fun w hw => (List.mem_cons.mp hw).elim (fun e => e ▸ h4) (h w)
  exact unparts (wk q4 (.code New1.yN New1.yB 2 none)) (wks q4 (.initialized New1.yN.cls :: New1.site))
/-- the words ride from the start Z to the walk's own state -/
theorem moved {Z s : State} {a0 args : Array Value} (hZ : Z.Warmed39 s.vm) (hw : ∀ d ∈ words, d.before a0 Z = true) : ∀ d ∈ words, d.before args s = true := fun d hd => by
  have q := hw d hd
  have t : ∀ d ∈ words, d = .arrayClass .byte ∨ (d.onTables && d.keepsFace) = true := by decide +kernel
  rcases t d hd with rfl | t
  · exact RoadKit.mvA hZ q
  · exact RoadKit.mv hZ q t
/-- WHAT COMES BACK, over the tables of the start Z: h the heap at the call, h' behind it -/
def Q (Z : State) (x : Addr) (A : Cell) (h : Heap) (v : Option Value) (h' : Heap) (L : List Loc) : Prop := v = none ∧ (∀ y ∈ L, y.base = x) ∧ RoadKit.Keep h h' [x] ∧ h'.size = h.size + 1 ∧ RoadKit.Exa Z h' x ST ∧ RoadKit.Fld Z h' x ST "value" "[B" (.ref h.size) ∧ RoadKit.Fld Z h' x ST "coder" "B" (.int 0) ∧
  (∃ V : Cell, RoadKit.Arr Z h' h.size V .byte ∧ V.vm = .none ∧ Z.vm.findClass "[B" = some V.cls ∧ V.slots.size = A.slots.size ∧ ∀ j, j < A.slots.size → V.slots[j]? = some (.int (lo8 (cv A j)))) ∧
  ∀ (O n d : String) (w : Value), RoadKit.Fld Z h x O n d w → RoadKit.slotOf Z O n d ≠ RoadKit.slotOf Z ST "value" "[B" → RoadKit.slotOf Z O n d ≠ RoadKit.slotOf Z ST "coder" "B" → RoadKit.Fld Z h' x O n d w
/-- **new String(chars) AT A CALL, IN THE ROAD'S FORM**: for specialBack behind newO: x the fresh String, b the char[] with the cell A -/
theorem back {p : Program} {l : Launch} {e : Env} {R : Room} {s : State} {args : Array Value} {below : List Frame} {len W : Nat} {Z : State} {a0 : Array Value} {h : Heap} (hZ : Z.Warmed39 s.vm) (hw : ∀ d ∈ words, d.before a0 Z = true) {kI : Nat} (wi : (Jvm.Cond.instantiable ST kI).before a0 Z = true)
    {x b : Addr} {A : Cell} {z : Int32} {v0 c0 : Value} (E : RoadKit.Exa Z h x ST) (V : RoadKit.Fld Z h x ST "value" "[B" v0) (C : RoadKit.Fld Z h x ST "coder" "B" c0) (K : RoadKit.Arr Z h b A .char) (hty : Typed .char A) (S : RoadKit.Sta Z h ST "COMPACT_STRINGS" "Z" (.int z)) (hz : ¬ z = 0)
    (l0 : 0 < A.slots.size) (l2 : A.slots.size ≤ 536870912) (hp : ∀ i, i < A.slots.size → ¬ 255 < cv A i) (hfr : 4 ≤ R.frames) (hlo : W + 65 ≤ R.locals) :
    Back l R p e below s args New1.yN len W (fun P a => a = #[.ref x, .ref b] ∧ P.U.heap = h ∧ P.cells + 1 ≤ R.cells ∧ P.slots + A.slots.size ≤ R.slots)
      (fun P _ v B => ∃ L, Q Z x A h v B.U.heap L ∧ B.locs = P.locs ++ L ∧ B.cells = P.cells + 1 ∧ B.slots = P.slots + A.slots.size) := by
  intro m meth c P g ig mk a X hg hsize hdg hW hn hp'
  obtain ⟨rfl, rfl, r1, r2⟩ := hp'
  have al : Z.vm.Alike P.U.vm := hZ.alike.trans X.warmed.alike
  obtain ⟨D, cfV, kV, iV, fV, hD, gV, stV, knV, obV, asV, slV⟩ := id V
  obtain ⟨D', cfC, kC, iC, fC, hD', gC, stC, -, -, asC, slC⟩ := id C
  cases hD.symm.trans hD'
  obtain ⟨D2, kD, e1, e2, e3, e4, e5⟩ := id E
  cases hD.symm.trans e1
  obtain ⟨c2, k2, i1, i2, i3, -⟩ := Cond.instantiable_spec wi
  cases e2.symm.trans i1
  cases e3.symm.trans i2
  obtain ⟨kU, u1, u2⟩ := al.2.2 _ _ e3
  have hB : Blank ST x D P.U := ⟨hD, ⟨knV, fun q hq => by rw [hq] at obV; cases obV⟩, by rw [al.findClass]; exact e2, kU, u1, by rw [u2]; exact i3, by rw [u2]; exact e5 i3⟩
  have F1 : Found ST "value" "[B" fV P.U := ⟨SBG.found_only al ⟨cfV, kV, iV, gV⟩, stV⟩
  have F2 : Found ST "coder" "B" fC P.U := ⟨SBG.found_only al ⟨cfC, kC, iC, gC⟩, stC⟩
  have hA : Ch b A P.U := ⟨⟨K.1, State.isArrayOf_alike al K.2.1, K.2.2, by omega⟩, hty⟩
  have hS : StaticIs P.U ST "COMPACT_STRINGS" "Z" (.int z) := by
    obtain ⟨cfS, iS, kS, fS, st, cS, t1, t2, t3, t4, t5, t6, t7⟩ := S
    exact StaticIs.there (s := { Z with heap := P.U.heap }) ⟨cfS, iS, kS, fS, st, cS, t1, t2, t3, t4, t5, (fun q => by rw [q] at t6; cases t6), t7⟩ al rfl
  obtain ⟨v, B, X', ⟨⟨hv, E', V', q1, q2, q3, q4, q5, q6, q7, q8, q9, q10, q11⟩, hl, hc, hs⟩, st⟩ := New1.pays x D fV fC b A z (tab_of (moved hZ hw)) hfr hlo m meth c P g ig mk _ X hg hsize hdg hW hn ⟨r1, r2, rfl, hB, F1, F2, hA, hS, hz, l0, l2, hp⟩
  have al' : Z.vm.Alike B.U.vm := hZ.alike.trans X'.warmed.alike
  have hsz : E'.slots.size = D.slots.size := by
    obtain ⟨-, -, -, kB, w1, w2, w3⟩ := q1
    obtain ⟨kB', y1, y2⟩ := al'.2.2 _ _ e3
    rw [q2.2.1] at w1
    cases w1.symm.trans y1
    rw [w3, e5 i3, y2]
  refine ⟨v, B, X', ⟨_, ⟨hv, ?_, ⟨by omega, fun y cy hy hn' => q10 y cy (by simpa using hn') hy, fun y cy hy => ?_⟩, q11, ⟨E', _, q1.1, by rw [q2.2.1]; exact e2, by rw [q2.2.1]; exact e3, by rw [q2.1]; exact obV, fun _ => by rw [hsz]; exact e5 i3⟩,
    ⟨E', cfV, kV, iV, fV, q1.1, gV, stV, by rw [q2.1]; exact knV, by rw [q2.1]; exact obV, by rw [q2.2.1]; exact asV, q3⟩, ⟨E', cfC, kC, iC, fC, q1.1, gC, stC, by rw [q2.1]; exact knV, by rw [q2.1]; exact obV, by rw [q2.2.1]; exact asC, q4⟩,
    ⟨V', ⟨q5.1, State.isArrayOf_alike al'.symm q5.2.1, q5.2.2.1⟩, q6, by rw [← al'.findClass]; exact q7, q8, fun j hj => by have := q9 j hj; rwa [Nat.zero_add] at this⟩, fun O n d w F n1 n2 => ?_⟩, hl, hc, hs⟩, st⟩
  · intro y hy
    simp only [List.mem_cons, List.not_mem_nil, or_false] at hy
    rcases hy with rfl | rfl <;> rfl
  · by_cases q : y = x
    · subst q
      cases hD.symm.trans hy
      exact ⟨E', q1.1, q2.2.1, q2.1, hsz⟩
    · exact ⟨cy, q10 y cy q hy, rfl, rfl, rfl⟩
  · obtain ⟨D3, cf, k, i, f, g1, g2, g3, g4, g5, g6, g7⟩ := F
    cases hD.symm.trans g1
    simp only [RoadKit.slotOf, g2, gV, gC, Option.map_some, Option.getD_some] at n1 n2
    exact ⟨E', cf, k, i, f, q1.1, g2, g3, by rw [q2.1]; exact g4, by rw [q2.1]; exact g5, by rw [q2.2.1]; exact g6, by rw [q2.2.2 f.slot (by simp [n1, n2])]; exact g7⟩
end StrChars.Road
namespace StrChars.Road
open Jvm Sem ClassFile Op Lib Jvm.Stand Jvm.Free Jvm.Free.XT
/-- WHAT COMES BACK, the byte[] as a list of values -/
def QA (Z : State) (x : Addr) (zn : Int32) (cs : List Int32) (h : Heap) (v : Option Value) (h' : Heap) (L : List Loc) : Prop := v = none ∧ (∀ y ∈ L, y.base = x) ∧ RoadKit.Keep h h' [x] ∧ h'.size = h.size + 1 ∧ RoadKit.Exa Z h' x ST ∧ RoadKit.Fld Z h' x ST "value" "[B" (.ref h.size) ∧ RoadKit.Fld Z h' x ST "coder" "B" (.int 0) ∧
  (∃ kb, Z.vm.findClass "[B" = some kb ∧ RoadKit.Arv Z h' h.size kb .byte zn (cs.map fun c => .int (lo8 c)) (.int 0)) ∧
  ∀ (O n d : String) (w : Value), RoadKit.Fld Z h x O n d w → RoadKit.slotOf Z O n d ≠ RoadKit.slotOf Z ST "value" "[B" → RoadKit.slotOf Z O n d ≠ RoadKit.slotOf Z ST "coder" "B" → RoadKit.Fld Z h' x O n d w
/-- **new String(chars) AT A CALL, THE ARRAYS AS LISTS**: the char[] at b holds cs, not empty, no char above 255 -/
theorem backArv {p : Program} {l : Launch} {e : Env} {R : Room} {s : State} {args : Array Value} {below : List Frame} {len W : Nat} {Z : State} {a0 : Array Value} {h : Heap} (hZ : Z.Warmed39 s.vm) (hw : ∀ d ∈ words, d.before a0 Z = true) {kI : Nat} (wi : (Jvm.Cond.instantiable ST kI).before a0 Z = true)
    {x b : Addr} {k : ClassId} {zn z : Int32} {cs : List Int32} {dv v0 c0 : Value} (E : RoadKit.Exa Z h x ST) (V : RoadKit.Fld Z h x ST "value" "[B" v0) (C : RoadKit.Fld Z h x ST "coder" "B" c0) (K : RoadKit.Arv Z h b k .char zn (cs.map Value.int) dv) (S : RoadKit.Sta Z h ST "COMPACT_STRINGS" "Z" (.int z)) (hz : ¬ z = 0)
    (hlen : zn.toNatClampNeg = cs.length) (h0 : 0 < cs.length) (hbig : cs.length ≤ 536870912) (hall : ∀ c ∈ cs, ¬ 255 < c) (hfr : 4 ≤ R.frames) (hlo : W + 65 ≤ R.locals) :
    Back l R p e below s args New1.yN len W (fun P a => a = #[.ref x, .ref b] ∧ P.U.heap = h ∧ P.cells + 1 ≤ R.cells ∧ P.slots + cs.length ≤ R.slots)
      (fun P _ v B => ∃ L, QA Z x zn cs h v B.U.heap L ∧ B.locs = P.locs ++ L ∧ B.cells = P.cells + 1 ∧ B.slots = P.slots + cs.length) := by
  obtain ⟨A, K1, K2, K3, K4, K5, K6⟩ := K
  have e : A.slots.size = cs.length := K3.trans hlen
  have hat : ∀ (i : Nat) (hi : i < cs.length), A.slots[i]? = some (.int cs[i]) := fun i hi => by rw [K5 i (by omega)]; simp [List.getD_eq_getElem?_getD, hi]
  have hcv : ∀ (i : Nat) (hi : i < cs.length), cv A i = cs[i] := fun i hi => by unfold cv; rw [hat i hi]
  have hty : Typed .char A := fun i v hv => by
    have hi : i < A.slots.size := (Array.getElem?_eq_some_iff.mp hv).1
    have q := K5 i hi
    rw [hv] at q
    rw [Option.some.inj q]
    exact K6 i hi
  refine Back.mono (back hZ hw wi E V C K1 hty S hz (by omega) (by omega) (fun i hi => by rw [hcv i (by omega)]; exact hall _ (List.getElem_mem _)) hfr hlo) (fun P a hp => ⟨hp.1, hp.2.1, hp.2.2.1, by rw [e]; exact hp.2.2.2⟩) (fun P a v B hp hq => ?_)
  obtain ⟨L, ⟨q1, q2, q3, q4, q5, q6, q7, ⟨V', v1, v2, v3, v4, v5⟩, q9⟩, hl, hc, hs⟩ := hq
  refine ⟨L, ⟨q1, q2, q3, q4, q5, q6, q7, ⟨V'.cls, v3, V', v1, rfl, by rw [v4, e, hlen], K4, fun i hi => ?_, fun i hi => ?_⟩, q9⟩, hl, hc, by rw [hs, e]⟩
  · have hi' : i < cs.length := by omega
    rw [v5 i (by omega), hcv i hi']; simp [List.getD_eq_getElem?_getD, hi']
  · have hi' : i < cs.length := by omega
    simp only [List.getD_eq_getElem?_getD, List.getElem?_map, List.getElem?_eq_getElem hi', Option.map_some, Option.getD_some]
    exact fits_lo8 _
end StrChars.Road
namespace StrChars.Road
open Jvm Sem ClassFile Op Lib Jvm.Stand Jvm.Free Jvm.Free.XT
/-- WHAT COMES BACK, in the writer's own shape -/
def QV (Z : State) (x : Addr) (N : Int32) (bs : List Int32) (h : Heap) (n0 : Nat) (v : Option Value) (h' : Heap) (L : List Loc) : Prop := v = none ∧ RoadKit.Fr n0 L ∧ RoadKit.Keep h h' [x] ∧ RoadKit.Exa Z h' x ST ∧ RoadKit.Fld Z h' x ST "coder" "B" (.int 0) ∧
  ∃ (t : Addr) (kb : ClassId), n0 ≤ t ∧ h.size ≤ t ∧ ¬ t = x ∧ RoadKit.Fld Z h' x ST "value" "[B" (.ref t) ∧ RoadKit.Arv Z h' t kb .byte N (bs.map Value.int) (.int 0)
/-- **new String(chars) AT A CALL, FOR THE WRITER**: a char[] of n known ints, each 0 to 255 -/
theorem backV {p : Program} {l : Launch} {e : Env} {R : Room} {s : State} {args : Array Value} {below : List Frame} {len W : Nat} {Z : State} {a0 : Array Value} {h : Heap} (hZ : Z.Warmed39 s.vm) (hw : ∀ d ∈ words, d.before a0 Z = true) {kI : Nat} (wi : (Jvm.Cond.instantiable ST kI).before a0 Z = true)
    {x b : Addr} {kC : ClassId} {cs bs : List Int32} {d v0 c0 : Value} {z N : Int32} {n n0 : Nat} (hx0 : n0 ≤ x) (hh0 : n0 ≤ h.size) (E : RoadKit.Exa Z h x ST) (V : RoadKit.Fld Z h x ST "value" "[B" v0) (C : RoadKit.Fld Z h x ST "coder" "B" c0) (K : RoadKit.Arv Z h b kC .char N (cs.map Value.int) d) (S : RoadKit.Sta Z h ST "COMPACT_STRINGS" "Z" (.int z)) (hz : ¬ z = 0)
    (hn : cs.length = n) (hN : N = Int32.ofNat n) (l0 : 0 < n) (l2 : n ≤ 4000) (hp : ∀ c ∈ cs, ¬ c < 0 ∧ ¬ (255 : Int32) < c) (hb : bs = cs.map (fun c => c.toInt8.toInt32)) (hfr : 4 ≤ R.frames) (hlo : W + 65 ≤ R.locals) :
    Back l R p e below s args (⟨"java/lang/String", "<init>", "([C)V"⟩ : MethodName) len W (fun P a => a = #[.ref x, .ref b] ∧ P.U.heap = h ∧ P.cells + 1 ≤ R.cells ∧ P.slots + n ≤ R.slots)
      (fun P _ v B => ∃ L, QV Z x N bs h n0 v B.U.heap L ∧ B.locs = P.locs ++ L ∧ B.cells = P.cells + 1 ∧ B.slots = P.slots + n) := by
  subst hn hN hb
  refine Back.mono (backArv hZ hw wi E V C K S hz (n32 (by omega)) l0 (by omega) (fun c hc => (hp c hc).2) hfr hlo) (fun P a hp => hp) (fun P a v B hp hq => ?_)
  obtain ⟨L, ⟨q1, q2, q3, q4, q5, q6, q7, ⟨kb, v1, v2⟩, q9⟩, hl, hc, hs⟩ := hq
  exact ⟨L, ⟨q1, fun y hy => by rw [q2 y hy]; exact hx0, q3, q5, q7, h.size, kb, hh0, Nat.le_refl _, Nat.ne_of_gt E.lt, q6, by rw [List.map_map]; exact v2⟩, hl, hc, hs⟩
end StrChars.Road
namespace StrChars
open Jvm Sem ClassFile Op Lib Jvm.Stand Jvm.Free.XT Jvm.Free.ALB Jvm.Free.JM Jvm.Free
open Jvm.Lib.Cold (StaticIs)
def hi8 (x : Int32) : Int32 := lo8 (x >>> ((8 : Int32) &&& 31))
end StrChars
namespace StrChars.Road
open Jvm Sem ClassFile Op Lib Jvm.Stand Jvm.Free Jvm.Free.XT
open Jvm.Lib.Cold (StaticIs)
/-- the bytes of the chars cs, low before high -/
def wideBytes : List Int32 → List Value
  | [] => []
  | c :: cs => .int (lo8 c) :: .int (hi8 c) :: wideBytes cs
/-- an array of N2 bytes vs codes the chars cs by the coder cd -/
def CodA (cs : List Int32) (cd N2 : Int32) (vs : List Value) : Prop := (cd = 0 ∧ N2 = Int32.ofNat cs.length ∧ vs = (cs.map fun c => Value.int (lo8 c)) ∧ ∀ c ∈ cs, ¬ 255 < c) ∨ (cd = 1 ∧ N2 = Int32.ofNat (2 * cs.length) ∧ vs = wideBytes cs ∧ ∃ c ∈ cs, 255 < c)
end StrChars.Road
namespace StrChars.Road
open Jvm Sem ClassFile Op Lib Jvm.Stand Jvm.Free Jvm.Free.XT
open Jvm.Lib.Cold (StaticIs)
/-- what backV says of its String, as the contracts of this text ask it: cs's low bytes, coder 0 -/
theorem codOf {cs : List Int32} {n : Nat} (hn : cs.length = n) (hb : ∀ c ∈ cs, ¬ 255 < c) : CodA cs 0 (Int32.ofNat n) ((cs.map lo8).map Value.int) := Or.inl ⟨rfl, by rw [hn], by simp [List.map_map, Function.comp_def], hb⟩
end StrChars.Road
end Jvm.Pilot.@@N@@
namespace Jvm.Pilot.@@N@@
open Jvm Jvm.ClassFile Sem Op Lib Jvm.Free Jvm.Stand Jvm.LawKit Jvm.RoadKit Bundle Jvm.Own Jvm.Pilot.@@N@@.Jvm.D
theorem wd_0 {a0 : Array Value} {Z : State} (hw : ∀ d ∈ tables_1, d.before a0 Z = true) : (Jvm.Cond.constantLong "com/example/stubwright/stubwright/idl/TokenMovedToPinLaw" (70 : Nat) (255 : Int64)).before a0 Z = true := hw _ (List.mem_of_getElem? (i := 0) rfl)
theorem wd_1 {a0 : Array Value} {Z : State} (hw : ∀ d ∈ tables_1, d.before a0 Z = true) : (Jvm.Cond.methodLink "com/example/stubwright/stubwright/idl/TokenMovedToPinLaw" (72 : Nat) ({ cls := "com/example/stubwright/stubwright/idl/TokenMovedToPinLaw", name := "textOf", desc := "(ICCC)Ljava/lang/String;" } : Jvm.MethodName)).before a0 Z = true := hw _ (List.mem_of_getElem? (i := 1) rfl)
theorem wd_2 {a0 : Array Value} {Z : State} (hw : ∀ d ∈ tables_1, d.before a0 Z = true) : (Jvm.Cond.static ({ cls := "com/example/stubwright/stubwright/idl/TokenMovedToPinLaw", name := "textOf", desc := "(ICCC)Ljava/lang/String;" } : Jvm.MethodName)).before a0 Z = true := hw _ (List.mem_of_getElem? (i := 2) rfl)
theorem wd_3 {a0 : Array Value} {Z : State} (hw : ∀ d ∈ tables_1, d.before a0 Z = true) : (Jvm.Cond.initialized "com/example/stubwright/stubwright/idl/TokenMovedToPinLaw").before a0 Z = true := hw _ (List.mem_of_getElem? (i := 3) rfl)
theorem wd_4 {a0 : Array Value} {Z : State} (hw : ∀ d ∈ tables_1, d.before a0 Z = true) : (Jvm.Cond.code ({ cls := "com/example/stubwright/stubwright/idl/TokenMovedToPinLaw", name := "textOf", desc := "(ICCC)Ljava/lang/String;" } : Jvm.MethodName) method_3_code (4 : Nat) (Option.some (Jvm.ClassFile.FieldType.object "java/lang/String"))).before a0 Z = true := hw _ (List.mem_of_getElem? (i := 4) rfl)
theorem wd_5 {a0 : Array Value} {Z : State} (hw : ∀ d ∈ tables_1, d.before a0 Z = true) : (Jvm.Cond.classLink "com/example/stubwright/stubwright/idl/TokenMovedToPinLaw" (65 : Nat) "java/lang/String").before a0 Z = true := hw _ (List.mem_of_getElem? (i := 5) rfl)
theorem wd_6 {a0 : Array Value} {Z : State} (hw : ∀ d ∈ tables_1, d.before a0 Z = true) : (Jvm.Cond.instantiable "java/lang/String" (4 : Nat)).before a0 Z = true := hw _ (List.mem_of_getElem? (i := 6) rfl)
theorem wd_7 {a0 : Array Value} {Z : State} (hw : ∀ d ∈ tables_1, d.before a0 Z = true) : (Jvm.Cond.initialized "java/lang/String").before a0 Z = true := hw _ (List.mem_of_getElem? (i := 7) rfl)
theorem wd_8 {a0 : Array Value} {Z : State} (hw : ∀ d ∈ tables_1, d.before a0 Z = true) : (Jvm.Cond.arrayClass Jvm.ClassFile.FieldType.char).before a0 Z = true := hw _ (List.mem_of_getElem? (i := 8) rfl)
theorem wd_9 {a0 : Array Value} {Z : State} (hw : ∀ d ∈ tables_1, d.before a0 Z = true) : (Jvm.Cond.methodLink "com/example/stubwright/stubwright/idl/TokenMovedToPinLaw" (67 : Nat) ({ cls := "java/lang/String", name := "<init>", desc := "([C)V" } : Jvm.MethodName)).before a0 Z = true := hw _ (List.mem_of_getElem? (i := 9) rfl)
theorem wd_10 {a0 : Array Value} {Z : State} (hw : ∀ d ∈ tables_1, d.before a0 Z = true) : (Jvm.Cond.instanceMethod ({ cls := "java/lang/String", name := "<init>", desc := "([C)V" } : Jvm.MethodName)).before a0 Z = true := hw _ (List.mem_of_getElem? (i := 10) rfl)
theorem wd_11 {a0 : Array Value} {Z : State} (hw : ∀ d ∈ tables_1, d.before a0 Z = true) : (Jvm.Cond.code ({ cls := "java/lang/String", name := "<init>", desc := "([C)V" } : Jvm.MethodName) jdk_42_method_3_code (2 : Nat) (Option.none : Option Jvm.ClassFile.FieldType)).before a0 Z = true := hw _ (List.mem_of_getElem? (i := 11) rfl)
theorem wd_12 {a0 : Array Value} {Z : State} (hw : ∀ d ∈ tables_1, d.before a0 Z = true) : (Jvm.Cond.methodLink "java/lang/String" (27 : Nat) ({ cls := "java/lang/String", name := "<init>", desc := "([CIILjava/lang/Void;)V" } : Jvm.MethodName)).before a0 Z = true := hw _ (List.mem_of_getElem? (i := 12) rfl)
theorem wd_13 {a0 : Array Value} {Z : State} (hw : ∀ d ∈ tables_1, d.before a0 Z = true) : (Jvm.Cond.instanceMethod ({ cls := "java/lang/String", name := "<init>", desc := "([CIILjava/lang/Void;)V" } : Jvm.MethodName)).before a0 Z = true := hw _ (List.mem_of_getElem? (i := 13) rfl)
theorem wd_15 {a0 : Array Value} {Z : State} (hw : ∀ d ∈ tables_1, d.before a0 Z = true) : (Jvm.Cond.code ({ cls := "java/lang/String", name := "<init>", desc := "([CIILjava/lang/Void;)V" } : Jvm.MethodName) jdk_42_method_149_code (6 : Nat) (Option.none : Option Jvm.ClassFile.FieldType)).before a0 Z = true := hw _ (List.mem_of_getElem? (i := 15) rfl)
theorem wd_16 {a0 : Array Value} {Z : State} (hw : ∀ d ∈ tables_1, d.before a0 Z = true) : (Jvm.Cond.methodLink "java/lang/String" (1 : Nat) ({ cls := "java/lang/Object", name := "<init>", desc := "()V" } : Jvm.MethodName)).before a0 Z = true := hw _ (List.mem_of_getElem? (i := 16) rfl)
theorem wd_17 {a0 : Array Value} {Z : State} (hw : ∀ d ∈ tables_1, d.before a0 Z = true) : (Jvm.Cond.instanceMethod ({ cls := "java/lang/Object", name := "<init>", desc := "()V" } : Jvm.MethodName)).before a0 Z = true := hw _ (List.mem_of_getElem? (i := 17) rfl)
theorem wd_18 {a0 : Array Value} {Z : State} (hw : ∀ d ∈ tables_1, d.before a0 Z = true) : (Jvm.Cond.code ({ cls := "java/lang/Object", name := "<init>", desc := "()V" } : Jvm.MethodName) object_method_1_code (1 : Nat) (Option.none : Option Jvm.ClassFile.FieldType)).before a0 Z = true := hw _ (List.mem_of_getElem? (i := 18) rfl)
theorem wd_19 {a0 : Array Value} {Z : State} (hw : ∀ d ∈ tables_1, d.before a0 Z = true) : (Jvm.Cond.fieldLink "java/lang/String" (38 : Nat) "java/lang/String" "COMPACT_STRINGS" "Z").before a0 Z = true := hw _ (List.mem_of_getElem? (i := 19) rfl)
theorem wd_24 {a0 : Array Value} {Z : State} (hw : ∀ d ∈ tables_1, d.before a0 Z = true) : (Jvm.Cond.arrayClass Jvm.ClassFile.FieldType.byte).before a0 Z = true := hw _ (List.mem_of_getElem? (i := 24) rfl)
theorem wd_31 {a0 : Array Value} {Z : State} (hw : ∀ d ∈ tables_1, d.before a0 Z = true) : (Jvm.Cond.fieldLink "java/lang/String" (15 : Nat) "java/lang/String" "coder" "B").before a0 Z = true := hw _ (List.mem_of_getElem? (i := 31) rfl)
theorem wd_32 {a0 : Array Value} {Z : State} (hw : ∀ d ∈ tables_1, d.before a0 Z = true) : (Jvm.Cond.laysFinal "java/lang/String" "java/lang/String" "coder" "B").before a0 Z = true := hw _ (List.mem_of_getElem? (i := 32) rfl)
theorem wd_33 {a0 : Array Value} {Z : State} (hw : ∀ d ∈ tables_1, d.before a0 Z = true) : (Jvm.Cond.fieldLink "java/lang/String" (9 : Nat) "java/lang/String" "value" "[B").before a0 Z = true := hw _ (List.mem_of_getElem? (i := 33) rfl)
theorem wd_34 {a0 : Array Value} {Z : State} (hw : ∀ d ∈ tables_1, d.before a0 Z = true) : (Jvm.Cond.laysFinal "java/lang/String" "java/lang/String" "value" "[B").before a0 Z = true := hw _ (List.mem_of_getElem? (i := 34) rfl)
theorem wd_35 {a0 : Array Value} {Z : State} (hw : ∀ d ∈ tables_1, d.before a0 Z = true) : (Jvm.Cond.methodLink "com/example/stubwright/stubwright/idl/TokenMovedToPinLaw" (78 : Nat) ({ cls := "java/lang/String", name := "valueOf", desc := "(C)Ljava/lang/String;" } : Jvm.MethodName)).before a0 Z = true := hw _ (List.mem_of_getElem? (i := 35) rfl)
theorem wd_36 {a0 : Array Value} {Z : State} (hw : ∀ d ∈ tables_1, d.before a0 Z = true) : (Jvm.Cond.static ({ cls := "java/lang/String", name := "valueOf", desc := "(C)Ljava/lang/String;" } : Jvm.MethodName)).before a0 Z = true := hw _ (List.mem_of_getElem? (i := 36) rfl)
theorem wd_37 {a0 : Array Value} {Z : State} (hw : ∀ d ∈ tables_1, d.before a0 Z = true) : (Jvm.Cond.code ({ cls := "java/lang/String", name := "valueOf", desc := "(C)Ljava/lang/String;" } : Jvm.MethodName) jdk_42_method_139_code (1 : Nat) (Option.some (Jvm.ClassFile.FieldType.object "java/lang/String"))).before a0 Z = true := hw _ (List.mem_of_getElem? (i := 37) rfl)
theorem wd_38 {a0 : Array Value} {Z : State} (hw : ∀ d ∈ tables_1, d.before a0 Z = true) : (Jvm.Cond.methodLink "java/lang/String" (1015 : Nat) ({ cls := "java/lang/StringLatin1", name := "canEncode", desc := "(C)Z" } : Jvm.MethodName)).before a0 Z = true := hw _ (List.mem_of_getElem? (i := 38) rfl)
theorem wd_39 {a0 : Array Value} {Z : State} (hw : ∀ d ∈ tables_1, d.before a0 Z = true) : (Jvm.Cond.static ({ cls := "java/lang/StringLatin1", name := "canEncode", desc := "(C)Z" } : Jvm.MethodName)).before a0 Z = true := hw _ (List.mem_of_getElem? (i := 39) rfl)
theorem wd_40 {a0 : Array Value} {Z : State} (hw : ∀ d ∈ tables_1, d.before a0 Z = true) : (Jvm.Cond.initialized "java/lang/StringLatin1").before a0 Z = true := hw _ (List.mem_of_getElem? (i := 40) rfl)
theorem wd_41 {a0 : Array Value} {Z : State} (hw : ∀ d ∈ tables_1, d.before a0 Z = true) : (Jvm.Cond.code ({ cls := "java/lang/StringLatin1", name := "canEncode", desc := "(C)Z" } : Jvm.MethodName) jdk_43_method_3_code (1 : Nat) (Option.some Jvm.ClassFile.FieldType.boolean)).before a0 Z = true := hw _ (List.mem_of_getElem? (i := 41) rfl)
theorem wd_42 {a0 : Array Value} {Z : State} (hw : ∀ d ∈ tables_1, d.before a0 Z = true) : (Jvm.Cond.classLink "java/lang/String" (10 : Nat) "java/lang/String").before a0 Z = true := hw _ (List.mem_of_getElem? (i := 42) rfl)
theorem wd_43 {a0 : Array Value} {Z : State} (hw : ∀ d ∈ tables_1, d.before a0 Z = true) : (Jvm.Cond.methodLink "java/lang/String" (1018 : Nat) ({ cls := "java/lang/StringLatin1", name := "toBytes", desc := "(C)[B" } : Jvm.MethodName)).before a0 Z = true := hw _ (List.mem_of_getElem? (i := 43) rfl)
theorem wd_44 {a0 : Array Value} {Z : State} (hw : ∀ d ∈ tables_1, d.before a0 Z = true) : (Jvm.Cond.static ({ cls := "java/lang/StringLatin1", name := "toBytes", desc := "(C)[B" } : Jvm.MethodName)).before a0 Z = true := hw _ (List.mem_of_getElem? (i := 44) rfl)
theorem wd_45 {a0 : Array Value} {Z : State} (hw : ∀ d ∈ tables_1, d.before a0 Z = true) : (Jvm.Cond.code ({ cls := "java/lang/StringLatin1", name := "toBytes", desc := "(C)[B" } : Jvm.MethodName) jdk_43_method_46_code (1 : Nat) (Option.some (Jvm.ClassFile.FieldType.array Jvm.ClassFile.FieldType.byte))).before a0 Z = true := hw _ (List.mem_of_getElem? (i := 45) rfl)
theorem wd_46 {a0 : Array Value} {Z : State} (hw : ∀ d ∈ tables_1, d.before a0 Z = true) : (Jvm.Cond.methodLink "java/lang/String" (209 : Nat) ({ cls := "java/lang/String", name := "<init>", desc := "([BB)V" } : Jvm.MethodName)).before a0 Z = true := hw _ (List.mem_of_getElem? (i := 46) rfl)
theorem wd_47 {a0 : Array Value} {Z : State} (hw : ∀ d ∈ tables_1, d.before a0 Z = true) : (Jvm.Cond.instanceMethod ({ cls := "java/lang/String", name := "<init>", desc := "([BB)V" } : Jvm.MethodName)).before a0 Z = true := hw _ (List.mem_of_getElem? (i := 47) rfl)
theorem wd_48 {a0 : Array Value} {Z : State} (hw : ∀ d ∈ tables_1, d.before a0 Z = true) : (Jvm.Cond.code ({ cls := "java/lang/String", name := "<init>", desc := "([BB)V" } : Jvm.MethodName) jdk_42_method_151_code (3 : Nat) (Option.none : Option Jvm.ClassFile.FieldType)).before a0 Z = true := hw _ (List.mem_of_getElem? (i := 48) rfl)
theorem wd_49 {a0 : Array Value} {Z : State} (hw : ∀ d ∈ tables_1, d.before a0 Z = true) : (Jvm.Cond.classLink "com/example/stubwright/stubwright/idl/TokenMovedToPinLaw" (82 : Nat) "com/example/stubwright/stubwright/SourcePosition").before a0 Z = true := hw _ (List.mem_of_getElem? (i := 49) rfl)
theorem wd_50 {a0 : Array Value} {Z : State} (hw : ∀ d ∈ tables_1, d.before a0 Z = true) : (Jvm.Cond.instantiable "com/example/stubwright/stubwright/SourcePosition" (3 : Nat)).before a0 Z = true := hw _ (List.mem_of_getElem? (i := 50) rfl)
theorem wd_51 {a0 : Array Value} {Z : State} (hw : ∀ d ∈ tables_1, d.before a0 Z = true) : (Jvm.Cond.initialized "com/example/stubwright/stubwright/SourcePosition").before a0 Z = true := hw _ (List.mem_of_getElem? (i := 51) rfl)
theorem wd_52 {a0 : Array Value} {Z : State} (hw : ∀ d ∈ tables_1, d.before a0 Z = true) : (Jvm.Cond.methodLink "com/example/stubwright/stubwright/idl/TokenMovedToPinLaw" (84 : Nat) ({ cls := "com/example/stubwright/stubwright/SourcePosition", name := "<init>", desc := "(Ljava/lang/String;II)V" } : Jvm.MethodName)).before a0 Z = true := hw _ (List.mem_of_getElem? (i := 52) rfl)
theorem wd_53 {a0 : Array Value} {Z : State} (hw : ∀ d ∈ tables_1, d.before a0 Z = true) : (Jvm.Cond.instanceMethod ({ cls := "com/example/stubwright/stubwright/SourcePosition", name := "<init>", desc := "(Ljava/lang/String;II)V" } : Jvm.MethodName)).before a0 Z = true := hw _ (List.mem_of_getElem? (i := 53) rfl)
theorem wd_54 {a0 : Array Value} {Z : State} (hw : ∀ d ∈ tables_1, d.before a0 Z = true) : (Jvm.Cond.code ({ cls := "com/example/stubwright/stubwright/SourcePosition", name := "<init>", desc := "(Ljava/lang/String;II)V" } : Jvm.MethodName) prog_4_method_1_code (4 : Nat) (Option.none : Option Jvm.ClassFile.FieldType)).before a0 Z = true := hw _ (List.mem_of_getElem? (i := 54) rfl)
theorem wd_55 {a0 : Array Value} {Z : State} (hw : ∀ d ∈ tables_1, d.before a0 Z = true) : (Jvm.Cond.methodLink "com/example/stubwright/stubwright/SourcePosition" (1 : Nat) ({ cls := "java/lang/Object", name := "<init>", desc := "()V" } : Jvm.MethodName)).before a0 Z = true := hw _ (List.mem_of_getElem? (i := 55) rfl)
theorem wd_56 {a0 : Array Value} {Z : State} (hw : ∀ d ∈ tables_1, d.before a0 Z = true) : (Jvm.Cond.stringLink "com/example/stubwright/stubwright/SourcePosition" (7 : Nat) "file").before a0 Z = true := hw _ (List.mem_of_getElem? (i := 56) rfl)
theorem wd_59 {a0 : Array Value} {Z : State} (hw : ∀ d ∈ tables_1, d.before a0 Z = true) : (Jvm.Cond.methodLink "com/example/stubwright/stubwright/SourcePosition" (9 : Nat) ({ cls := "java/util/Objects", name := "requireNonNull", desc := "(Ljava/lang/Object;Ljava/lang/String;)Ljava/lang/Object;" } : Jvm.MethodName)).before a0 Z = true := hw _ (List.mem_of_getElem? (i := 59) rfl)
theorem wd_60 {a0 : Array Value} {Z : State} (hw : ∀ d ∈ tables_1, d.before a0 Z = true) : (Jvm.Cond.static ({ cls := "java/util/Objects", name := "requireNonNull", desc := "(Ljava/lang/Object;Ljava/lang/String;)Ljava/lang/Object;" } : Jvm.MethodName)).before a0 Z = true := hw _ (List.mem_of_getElem? (i := 60) rfl)
theorem wd_61 {a0 : Array Value} {Z : State} (hw : ∀ d ∈ tables_1, d.before a0 Z = true) : (Jvm.Cond.initialized "java/util/Objects").before a0 Z = true := hw _ (List.mem_of_getElem? (i := 61) rfl)
theorem wd_62 {a0 : Array Value} {Z : State} (hw : ∀ d ∈ tables_1, d.before a0 Z = true) : (Jvm.Cond.code ({ cls := "java/util/Objects", name := "requireNonNull", desc := "(Ljava/lang/Object;Ljava/lang/String;)Ljava/lang/Object;" } : Jvm.MethodName) jdk_31_method_11_code (2 : Nat) (Option.some (Jvm.ClassFile.FieldType.object "java/lang/Object"))).before a0 Z = true := hw _ (List.mem_of_getElem? (i := 62) rfl)
theorem wd_63 {a0 : Array Value} {Z : State} (hw : ∀ d ∈ tables_1, d.before a0 Z = true) : (Jvm.Cond.classLink "com/example/stubwright/stubwright/SourcePosition" (15 : Nat) "java/lang/String").before a0 Z = true := hw _ (List.mem_of_getElem? (i := 63) rfl)
theorem wd_64 {a0 : Array Value} {Z : State} (hw : ∀ d ∈ tables_1, d.before a0 Z = true) : (Jvm.Cond.fieldLink "com/example/stubwright/stubwright/SourcePosition" (17 : Nat) "com/example/stubwright/stubwright/SourcePosition" "file" "Ljava/lang/String;").before a0 Z = true := hw _ (List.mem_of_getElem? (i := 64) rfl)
theorem wd_65 {a0 : Array Value} {Z : State} (hw : ∀ d ∈ tables_1, d.before a0 Z = true) : (Jvm.Cond.laysFinal "com/example/stubwright/stubwright/SourcePosition" "com/example/stubwright/stubwright/SourcePosition" "file" "Ljava/lang/String;").before a0 Z = true := hw _ (List.mem_of_getElem? (i := 65) rfl)
theorem wd_66 {a0 : Array Value} {Z : State} (hw : ∀ d ∈ tables_1, d.before a0 Z = true) : (Jvm.Cond.fieldLink "com/example/stubwright/stubwright/SourcePosition" (22 : Nat) "com/example/stubwright/stubwright/SourcePosition" "line" "I").before a0 Z = true := hw _ (List.mem_of_getElem? (i := 66) rfl)
theorem wd_67 {a0 : Array Value} {Z : State} (hw : ∀ d ∈ tables_1, d.before a0 Z = true) : (Jvm.Cond.laysFinal "com/example/stubwright/stubwright/SourcePosition" "com/example/stubwright/stubwright/SourcePosition" "line" "I").before a0 Z = true := hw _ (List.mem_of_getElem? (i := 67) rfl)
theorem wd_68 {a0 : Array Value} {Z : State} (hw : ∀ d ∈ tables_1, d.before a0 Z = true) : (Jvm.Cond.fieldLink "com/example/stubwright/stubwright/SourcePosition" (26 : Nat) "com/example/stubwright/stubwright/SourcePosition" "column" "I").before a0 Z = true := hw _ (List.mem_of_getElem? (i := 68) rfl)
theorem wd_69 {a0 : Array Value} {Z : State} (hw : ∀ d ∈ tables_1, d.before a0 Z = true) : (Jvm.Cond.laysFinal "com/example/stubwright/stubwright/SourcePosition" "com/example/stubwright/stubwright/SourcePosition" "column" "I").before a0 Z = true := hw _ (List.mem_of_getElem? (i := 69) rfl)
theorem wd_70 {a0 : Array Value} {Z : State} (hw : ∀ d ∈ tables_1, d.before a0 Z = true) : (Jvm.Cond.fieldLink "com/example/stubwright/stubwright/idl/TokenMovedToPinLaw" (8 : Nat) "com/example/stubwright/stubwright/idl/Token$Kind" "IDENTIFIER" "Lcom/example/stubwright/stubwright/idl/Token$Kind;").before a0 Z = true := hw _ (List.mem_of_getElem? (i := 70) rfl)
theorem wd_71 {a0 : Array Value} {Z : State} (hw : ∀ d ∈ tables_1, d.before a0 Z = true) : (Jvm.Cond.initialized "com/example/stubwright/stubwright/idl/Token$Kind").before a0 Z = true := hw _ (List.mem_of_getElem? (i := 71) rfl)
theorem wd_72 {a0 : Array Value} {Z : State} (hw : ∀ d ∈ tables_1, d.before a0 Z = true) : (Jvm.Cond.laysStatic "com/example/stubwright/stubwright/idl/Token$Kind" "IDENTIFIER" "Lcom/example/stubwright/stubwright/idl/Token$Kind;").before a0 Z = true := hw _ (List.mem_of_getElem? (i := 72) rfl)
theorem wd_73 {a0 : Array Value} {Z : State} (hw : ∀ d ∈ tables_1, d.before a0 Z = true) : (Jvm.Cond.methodLink "com/example/stubwright/stubwright/idl/TokenMovedToPinLaw" (91 : Nat) ({ cls := "com/example/stubwright/stubwright/idl/Token", name := "escapedIdentifier", desc := "(Ljava/lang/String;Lcom/example/stubwright/stubwright/SourcePosition;)Lcom/example/stubwright/stubwright/idl/Token;" } : Jvm.MethodName)).before a0 Z = true := hw _ (List.mem_of_getElem? (i := 73) rfl)
theorem wd_74 {a0 : Array Value} {Z : State} (hw : ∀ d ∈ tables_1, d.before a0 Z = true) : (Jvm.Cond.static ({ cls := "com/example/stubwright/stubwright/idl/Token", name := "escapedIdentifier", desc := "(Ljava/lang/String;Lcom/example/stubwright/stubwright/SourcePosition;)Lcom/example/stubwright/stubwright/idl/Token;" } : Jvm.MethodName)).before a0 Z = true := hw _ (List.mem_of_getElem? (i := 74) rfl)
theorem wd_75 {a0 : Array Value} {Z : State} (hw : ∀ d ∈ tables_1, d.before a0 Z = true) : (Jvm.Cond.initialized "com/example/stubwright/stubwright/idl/Token").before a0 Z = true := hw _ (List.mem_of_getElem? (i := 75) rfl)
theorem wd_76 {a0 : Array Value} {Z : State} (hw : ∀ d ∈ tables_1, d.before a0 Z = true) : (Jvm.Cond.code ({ cls := "com/example/stubwright/stubwright/idl/Token", name := "escapedIdentifier", desc := "(Ljava/lang/String;Lcom/example/stubwright/stubwright/SourcePosition;)Lcom/example/stubwright/stubwright/idl/Token;" } : Jvm.MethodName) prog_36_method_3_code (2 : Nat) (Option.some (Jvm.ClassFile.FieldType.object "com/example/stubwright/stubwright/idl/Token"))).before a0 Z = true := hw _ (List.mem_of_getElem? (i := 76) rfl)
theorem wd_77 {a0 : Array Value} {Z : State} (hw : ∀ d ∈ tables_1, d.before a0 Z = true) : (Jvm.Cond.classLink "com/example/stubwright/stubwright/idl/Token" (2 : Nat) "com/example/stubwright/stubwright/idl/Token").before a0 Z = true := hw _ (List.mem_of_getElem? (i := 77) rfl)
theorem wd_78 {a0 : Array Value} {Z : State} (hw : ∀ d ∈ tables_1, d.before a0 Z = true) : (Jvm.Cond.instantiable "com/example/stubwright/stubwright/idl/Token" (4 : Nat)).before a0 Z = true := hw _ (List.mem_of_getElem? (i := 78) rfl)
theorem wd_79 {a0 : Array Value} {Z : State} (hw : ∀ d ∈ tables_1, d.before a0 Z = true) : (Jvm.Cond.fieldLink "com/example/stubwright/stubwright/idl/Token" (28 : Nat) "com/example/stubwright/stubwright/idl/Token$Kind" "IDENTIFIER" "Lcom/example/stubwright/stubwright/idl/Token$Kind;").before a0 Z = true := hw _ (List.mem_of_getElem? (i := 79) rfl)
theorem wd_80 {a0 : Array Value} {Z : State} (hw : ∀ d ∈ tables_1, d.before a0 Z = true) : (Jvm.Cond.methodLink "com/example/stubwright/stubwright/idl/Token" (1 : Nat) ({ cls := "com/example/stubwright/stubwright/idl/Token", name := "<init>", desc := "(Lcom/example/stubwright/stubwright/idl/Token$Kind;Ljava/lang/String;Lcom/example/stubwright/stubwright/SourcePosition;Z)V" } : Jvm.MethodName)).before a0 Z = true := hw _ (List.mem_of_getElem? (i := 80) rfl)
theorem wd_81 {a0 : Array Value} {Z : State} (hw : ∀ d ∈ tables_1, d.before a0 Z = true) : (Jvm.Cond.instanceMethod ({ cls := "com/example/stubwright/stubwright/idl/Token", name := "<init>", desc := "(Lcom/example/stubwright/stubwright/idl/Token$Kind;Ljava/lang/String;Lcom/example/stubwright/stubwright/SourcePosition;Z)V" } : Jvm.MethodName)).before a0 Z = true := hw _ (List.mem_of_getElem? (i := 81) rfl)
theorem wd_82 {a0 : Array Value} {Z : State} (hw : ∀ d ∈ tables_1, d.before a0 Z = true) : (Jvm.Cond.code ({ cls := "com/example/stubwright/stubwright/idl/Token", name := "<init>", desc := "(Lcom/example/stubwright/stubwright/idl/Token$Kind;Ljava/lang/String;Lcom/example/stubwright/stubwright/SourcePosition;Z)V" } : Jvm.MethodName) prog_36_method_2_code (5 : Nat) (Option.none : Option Jvm.ClassFile.FieldType)).before a0 Z = true := hw _ (List.mem_of_getElem? (i := 82) rfl)
theorem wd_83 {a0 : Array Value} {Z : State} (hw : ∀ d ∈ tables_1, d.before a0 Z = true) : (Jvm.Cond.methodLink "com/example/stubwright/stubwright/idl/Token" (7 : Nat) ({ cls := "java/lang/Object", name := "<init>", desc := "()V" } : Jvm.MethodName)).before a0 Z = true := hw _ (List.mem_of_getElem? (i := 83) rfl)
theorem wd_84 {a0 : Array Value} {Z : State} (hw : ∀ d ∈ tables_1, d.before a0 Z = true) : (Jvm.Cond.fieldLink "com/example/stubwright/stubwright/idl/Token" (12 : Nat) "com/example/stubwright/stubwright/idl/Token" "kind" "Lcom/example/stubwright/stubwright/idl/Token$Kind;").before a0 Z = true := hw _ (List.mem_of_getElem? (i := 84) rfl)
theorem wd_85 {a0 : Array Value} {Z : State} (hw : ∀ d ∈ tables_1, d.before a0 Z = true) : (Jvm.Cond.laysFinal "com/example/stubwright/stubwright/idl/Token" "com/example/stubwright/stubwright/idl/Token" "kind" "Lcom/example/stubwright/stubwright/idl/Token$Kind;").before a0 Z = true := hw _ (List.mem_of_getElem? (i := 85) rfl)
theorem wd_86 {a0 : Array Value} {Z : State} (hw : ∀ d ∈ tables_1, d.before a0 Z = true) : (Jvm.Cond.fieldLink "com/example/stubwright/stubwright/idl/Token" (16 : Nat) "com/example/stubwright/stubwright/idl/Token" "text" "Ljava/lang/String;").before a0 Z = true := hw _ (List.mem_of_getElem? (i := 86) rfl)
theorem wd_87 {a0 : Array Value} {Z : State} (hw : ∀ d ∈ tables_1, d.before a0 Z = true) : (Jvm.Cond.laysFinal "com/example/stubwright/stubwright/idl/Token" "com/example/stubwright/stubwright/idl/Token" "text" "Ljava/lang/String;").before a0 Z = true := hw _ (List.mem_of_getElem? (i := 87) rfl)
theorem wd_88 {a0 : Array Value} {Z : State} (hw : ∀ d ∈ tables_1, d.before a0 Z = true) : (Jvm.Cond.fieldLink "com/example/stubwright/stubwright/idl/Token" (20 : Nat) "com/example/stubwright/stubwright/idl/Token" "position" "Lcom/example/stubwright/stubwright/SourcePosition;").before a0 Z = true := hw _ (List.mem_of_getElem? (i := 88) rfl)
theorem wd_89 {a0 : Array Value} {Z : State} (hw : ∀ d ∈ tables_1, d.before a0 Z = true) : (Jvm.Cond.laysFinal "com/example/stubwright/stubwright/idl/Token" "com/example/stubwright/stubwright/idl/Token" "position" "Lcom/example/stubwright/stubwright/SourcePosition;").before a0 Z = true := hw _ (List.mem_of_getElem? (i := 89) rfl)
theorem wd_90 {a0 : Array Value} {Z : State} (hw : ∀ d ∈ tables_1, d.before a0 Z = true) : (Jvm.Cond.fieldLink "com/example/stubwright/stubwright/idl/Token" (24 : Nat) "com/example/stubwright/stubwright/idl/Token" "escaped" "Z").before a0 Z = true := hw _ (List.mem_of_getElem? (i := 90) rfl)
theorem wd_91 {a0 : Array Value} {Z : State} (hw : ∀ d ∈ tables_1, d.before a0 Z = true) : (Jvm.Cond.laysFinal "com/example/stubwright/stubwright/idl/Token" "com/example/stubwright/stubwright/idl/Token" "escaped" "Z").before a0 Z = true := hw _ (List.mem_of_getElem? (i := 91) rfl)
theorem wd_92 {a0 : Array Value} {Z : State} (hw : ∀ d ∈ tables_1, d.before a0 Z = true) : (Jvm.Cond.methodLink "com/example/stubwright/stubwright/idl/TokenMovedToPinLaw" (100 : Nat) ({ cls := "com/example/stubwright/stubwright/idl/Token", name := "movedTo", desc := "(Lcom/example/stubwright/stubwright/SourcePosition;)Lcom/example/stubwright/stubwright/idl/Token;" } : Jvm.MethodName)).before a0 Z = true := hw _ (List.mem_of_getElem? (i := 92) rfl)
theorem wd_93 {a0 : Array Value} {Z : State} (hw : ∀ d ∈ tables_1, d.before a0 Z = true) : (Jvm.Cond.declares ({ cls := "com/example/stubwright/stubwright/idl/Token", name := "movedTo", desc := "(Lcom/example/stubwright/stubwright/SourcePosition;)Lcom/example/stubwright/stubwright/idl/Token;" } : Jvm.MethodName)).before a0 Z = true := hw _ (List.mem_of_getElem? (i := 93) rfl)
theorem wd_94 {a0 : Array Value} {Z : State} (hw : ∀ d ∈ tables_1, d.before a0 Z = true) : (Jvm.Cond.instanceMethod ({ cls := "com/example/stubwright/stubwright/idl/Token", name := "movedTo", desc := "(Lcom/example/stubwright/stubwright/SourcePosition;)Lcom/example/stubwright/stubwright/idl/Token;" } : Jvm.MethodName)).before a0 Z = true := hw _ (List.mem_of_getElem? (i := 94) rfl)
theorem wd_95 {a0 : Array Value} {Z : State} (hw : ∀ d ∈ tables_1, d.before a0 Z = true) : (Jvm.Cond.selects "com/example/stubwright/stubwright/idl/Token" ({ cls := "com/example/stubwright/stubwright/idl/Token", name := "movedTo", desc := "(Lcom/example/stubwright/stubwright/SourcePosition;)Lcom/example/stubwright/stubwright/idl/Token;" } : Jvm.MethodName) ({ cls := "com/example/stubwright/stubwright/idl/Token", name := "movedTo", desc := "(Lcom/example/stubwright/stubwright/SourcePosition;)Lcom/example/stubwright/stubwright/idl/Token;" } : Jvm.MethodName)).before a0 Z = true := hw _ (List.mem_of_getElem? (i := 95) rfl)
theorem wd_96 {a0 : Array Value} {Z : State} (hw : ∀ d ∈ tables_1, d.before a0 Z = true) : (Jvm.Cond.code ({ cls := "com/example/stubwright/stubwright/idl/Token", name := "movedTo", desc := "(Lcom/example/stubwright/stubwright/SourcePosition;)Lcom/example/stubwright/stubwright/idl/Token;" } : Jvm.MethodName) prog_36_method_4_code (2 : Nat) (Option.some (Jvm.ClassFile.FieldType.object "com/example/stubwright/stubwright/idl/Token"))).before a0 Z = true := hw _ (List.mem_of_getElem? (i := 96) rfl)
theorem wd_97 {a0 : Array Value} {Z : State} (hw : ∀ d ∈ tables_1, d.before a0 Z = true) : (Jvm.Cond.methodLink "com/example/stubwright/stubwright/idl/TokenMovedToPinLaw" (104 : Nat) ({ cls := "com/example/stubwright/stubwright/idl/Token", name := "kind", desc := "()Lcom/example/stubwright/stubwright/idl/Token$Kind;" } : Jvm.MethodName)).before a0 Z = true := hw _ (List.mem_of_getElem? (i := 97) rfl)
theorem wd_98 {a0 : Array Value} {Z : State} (hw : ∀ d ∈ tables_1, d.before a0 Z = true) : (Jvm.Cond.declares ({ cls := "com/example/stubwright/stubwright/idl/Token", name := "kind", desc := "()Lcom/example/stubwright/stubwright/idl/Token$Kind;" } : Jvm.MethodName)).before a0 Z = true := hw _ (List.mem_of_getElem? (i := 98) rfl)
theorem wd_99 {a0 : Array Value} {Z : State} (hw : ∀ d ∈ tables_1, d.before a0 Z = true) : (Jvm.Cond.instanceMethod ({ cls := "com/example/stubwright/stubwright/idl/Token", name := "kind", desc := "()Lcom/example/stubwright/stubwright/idl/Token$Kind;" } : Jvm.MethodName)).before a0 Z = true := hw _ (List.mem_of_getElem? (i := 99) rfl)
theorem wd_100 {a0 : Array Value} {Z : State} (hw : ∀ d ∈ tables_1, d.before a0 Z = true) : (Jvm.Cond.selects "com/example/stubwright/stubwright/idl/Token" ({ cls := "com/example/stubwright/stubwright/idl/Token", name := "kind", desc := "()Lcom/example/stubwright/stubwright/idl/Token$Kind;" } : Jvm.MethodName) ({ cls := "com/example/stubwright/stubwright/idl/Token", name := "kind", desc := "()Lcom/example/stubwright/stubwright/idl/Token$Kind;" } : Jvm.MethodName)).before a0 Z = true := hw _ (List.mem_of_getElem? (i := 100) rfl)
theorem wd_101 {a0 : Array Value} {Z : State} (hw : ∀ d ∈ tables_1, d.before a0 Z = true) : (Jvm.Cond.code ({ cls := "com/example/stubwright/stubwright/idl/Token", name := "kind", desc := "()Lcom/example/stubwright/stubwright/idl/Token$Kind;" } : Jvm.MethodName) prog_36_method_5_code (1 : Nat) (Option.some (Jvm.ClassFile.FieldType.object "com/example/stubwright/stubwright/idl/Token$Kind"))).before a0 Z = true := hw _ (List.mem_of_getElem? (i := 101) rfl)
theorem wd_102 {a0 : Array Value} {Z : State} (hw : ∀ d ∈ tables_1, d.before a0 Z = true) : (Jvm.Cond.methodLink "com/example/stubwright/stubwright/idl/TokenMovedToPinLaw" (108 : Nat) ({ cls := "com/example/stubwright/stubwright/idl/Token", name := "text", desc := "()Ljava/lang/String;" } : Jvm.MethodName)).before a0 Z = true := hw _ (List.mem_of_getElem? (i := 102) rfl)
theorem wd_103 {a0 : Array Value} {Z : State} (hw : ∀ d ∈ tables_1, d.before a0 Z = true) : (Jvm.Cond.declares ({ cls := "com/example/stubwright/stubwright/idl/Token", name := "text", desc := "()Ljava/lang/String;" } : Jvm.MethodName)).before a0 Z = true := hw _ (List.mem_of_getElem? (i := 103) rfl)
theorem wd_104 {a0 : Array Value} {Z : State} (hw : ∀ d ∈ tables_1, d.before a0 Z = true) : (Jvm.Cond.instanceMethod ({ cls := "com/example/stubwright/stubwright/idl/Token", name := "text", desc := "()Ljava/lang/String;" } : Jvm.MethodName)).before a0 Z = true := hw _ (List.mem_of_getElem? (i := 104) rfl)
theorem wd_105 {a0 : Array Value} {Z : State} (hw : ∀ d ∈ tables_1, d.before a0 Z = true) : (Jvm.Cond.selects "com/example/stubwright/stubwright/idl/Token" ({ cls := "com/example/stubwright/stubwright/idl/Token", name := "text", desc := "()Ljava/lang/String;" } : Jvm.MethodName) ({ cls := "com/example/stubwright/stubwright/idl/Token", name := "text", desc := "()Ljava/lang/String;" } : Jvm.MethodName)).before a0 Z = true := hw _ (List.mem_of_getElem? (i := 105) rfl)
theorem wd_106 {a0 : Array Value} {Z : State} (hw : ∀ d ∈ tables_1, d.before a0 Z = true) : (Jvm.Cond.code ({ cls := "com/example/stubwright/stubwright/idl/Token", name := "text", desc := "()Ljava/lang/String;" } : Jvm.MethodName) prog_36_method_6_code (1 : Nat) (Option.some (Jvm.ClassFile.FieldType.object "java/lang/String"))).before a0 Z = true := hw _ (List.mem_of_getElem? (i := 106) rfl)
theorem wd_107 {a0 : Array Value} {Z : State} (hw : ∀ d ∈ tables_1, d.before a0 Z = true) : (Jvm.Cond.methodLink "com/example/stubwright/stubwright/idl/TokenMovedToPinLaw" (112 : Nat) ({ cls := "java/lang/String", name := "equals", desc := "(Ljava/lang/Object;)Z" } : Jvm.MethodName)).before a0 Z = true := hw _ (List.mem_of_getElem? (i := 107) rfl)
theorem wd_108 {a0 : Array Value} {Z : State} (hw : ∀ d ∈ tables_1, d.before a0 Z = true) : (Jvm.Cond.declares ({ cls := "java/lang/String", name := "equals", desc := "(Ljava/lang/Object;)Z" } : Jvm.MethodName)).before a0 Z = true := hw _ (List.mem_of_getElem? (i := 108) rfl)
theorem wd_109 {a0 : Array Value} {Z : State} (hw : ∀ d ∈ tables_1, d.before a0 Z = true) : (Jvm.Cond.instanceMethod ({ cls := "java/lang/String", name := "equals", desc := "(Ljava/lang/Object;)Z" } : Jvm.MethodName)).before a0 Z = true := hw _ (List.mem_of_getElem? (i := 109) rfl)
theorem wd_110 {a0 : Array Value} {Z : State} (hw : ∀ d ∈ tables_1, d.before a0 Z = true) : (Jvm.Cond.selects "java/lang/String" ({ cls := "java/lang/String", name := "equals", desc := "(Ljava/lang/Object;)Z" } : Jvm.MethodName) ({ cls := "java/lang/String", name := "equals", desc := "(Ljava/lang/Object;)Z" } : Jvm.MethodName)).before a0 Z = true := hw _ (List.mem_of_getElem? (i := 110) rfl)
theorem wd_111 {a0 : Array Value} {Z : State} (hw : ∀ d ∈ tables_1, d.before a0 Z = true) : (Jvm.Cond.code ({ cls := "java/lang/String", name := "equals", desc := "(Ljava/lang/Object;)Z" } : Jvm.MethodName) jdk_42_method_66_code (3 : Nat) (Option.some Jvm.ClassFile.FieldType.boolean)).before a0 Z = true := hw _ (List.mem_of_getElem? (i := 111) rfl)
theorem wd_112 {a0 : Array Value} {Z : State} (hw : ∀ d ∈ tables_1, d.before a0 Z = true) : (Jvm.Cond.methodLink "com/example/stubwright/stubwright/idl/TokenMovedToPinLaw" (116 : Nat) ({ cls := "com/example/stubwright/stubwright/idl/Token", name := "isEscaped", desc := "()Z" } : Jvm.MethodName)).before a0 Z = true := hw _ (List.mem_of_getElem? (i := 112) rfl)
theorem wd_113 {a0 : Array Value} {Z : State} (hw : ∀ d ∈ tables_1, d.before a0 Z = true) : (Jvm.Cond.declares ({ cls := "com/example/stubwright/stubwright/idl/Token", name := "isEscaped", desc := "()Z" } : Jvm.MethodName)).before a0 Z = true := hw _ (List.mem_of_getElem? (i := 113) rfl)
theorem wd_114 {a0 : Array Value} {Z : State} (hw : ∀ d ∈ tables_1, d.before a0 Z = true) : (Jvm.Cond.instanceMethod ({ cls := "com/example/stubwright/stubwright/idl/Token", name := "isEscaped", desc := "()Z" } : Jvm.MethodName)).before a0 Z = true := hw _ (List.mem_of_getElem? (i := 114) rfl)
theorem wd_115 {a0 : Array Value} {Z : State} (hw : ∀ d ∈ tables_1, d.before a0 Z = true) : (Jvm.Cond.selects "com/example/stubwright/stubwright/idl/Token" ({ cls := "com/example/stubwright/stubwright/idl/Token", name := "isEscaped", desc := "()Z" } : Jvm.MethodName) ({ cls := "com/example/stubwright/stubwright/idl/Token", name := "isEscaped", desc := "()Z" } : Jvm.MethodName)).before a0 Z = true := hw _ (List.mem_of_getElem? (i := 115) rfl)
theorem wd_116 {a0 : Array Value} {Z : State} (hw : ∀ d ∈ tables_1, d.before a0 Z = true) : (Jvm.Cond.code ({ cls := "com/example/stubwright/stubwright/idl/Token", name := "isEscaped", desc := "()Z" } : Jvm.MethodName) prog_36_method_9_code (1 : Nat) (Option.some Jvm.ClassFile.FieldType.boolean)).before a0 Z = true := hw _ (List.mem_of_getElem? (i := 116) rfl)
theorem wd_117 {a0 : Array Value} {Z : State} (hw : ∀ d ∈ tables_1, d.before a0 Z = true) : (Jvm.Cond.methodLink "com/example/stubwright/stubwright/idl/TokenMovedToPinLaw" (120 : Nat) ({ cls := "com/example/stubwright/stubwright/idl/Token", name := "position", desc := "()Lcom/example/stubwright/stubwright/SourcePosition;" } : Jvm.MethodName)).before a0 Z = true := hw _ (List.mem_of_getElem? (i := 117) rfl)
theorem wd_118 {a0 : Array Value} {Z : State} (hw : ∀ d ∈ tables_1, d.before a0 Z = true) : (Jvm.Cond.declares ({ cls := "com/example/stubwright/stubwright/idl/Token", name := "position", desc := "()Lcom/example/stubwright/stubwright/SourcePosition;" } : Jvm.MethodName)).before a0 Z = true := hw _ (List.mem_of_getElem? (i := 118) rfl)
theorem wd_119 {a0 : Array Value} {Z : State} (hw : ∀ d ∈ tables_1, d.before a0 Z = true) : (Jvm.Cond.instanceMethod ({ cls := "com/example/stubwright/stubwright/idl/Token", name := "position", desc := "()Lcom/example/stubwright/stubwright/SourcePosition;" } : Jvm.MethodName)).before a0 Z = true := hw _ (List.mem_of_getElem? (i := 119) rfl)
theorem wd_120 {a0 : Array Value} {Z : State} (hw : ∀ d ∈ tables_1, d.before a0 Z = true) : (Jvm.Cond.selects "com/example/stubwright/stubwright/idl/Token" ({ cls := "com/example/stubwright/stubwright/idl/Token", name := "position", desc := "()Lcom/example/stubwright/stubwright/SourcePosition;" } : Jvm.MethodName) ({ cls := "com/example/stubwright/stubwright/idl/Token", name := "position", desc := "()Lcom/example/stubwright/stubwright/SourcePosition;" } : Jvm.MethodName)).before a0 Z = true := hw _ (List.mem_of_getElem? (i := 120) rfl)
theorem wd_121 {a0 : Array Value} {Z : State} (hw : ∀ d ∈ tables_1, d.before a0 Z = true) : (Jvm.Cond.code ({ cls := "com/example/stubwright/stubwright/idl/Token", name := "position", desc := "()Lcom/example/stubwright/stubwright/SourcePosition;" } : Jvm.MethodName) prog_36_method_7_code (1 : Nat) (Option.some (Jvm.ClassFile.FieldType.object "com/example/stubwright/stubwright/SourcePosition"))).before a0 Z = true := hw _ (List.mem_of_getElem? (i := 121) rfl)
theorem wd_122 {a0 : Array Value} {Z : State} (hw : ∀ d ∈ tables_1, d.before a0 Z = true) : (Jvm.Cond.stringLink "java/lang/String" (7 : Nat) "").before a0 Z = true := hw _ (List.mem_of_getElem? (i := 122) rfl)
theorem wd_123 {a0 : Array Value} {Z : State} (hw : ∀ d ∈ tables_1, d.before a0 Z = true) : (Jvm.Cond.methodLink "com/example/stubwright/stubwright/idl/TokenMovedToPinLaw" (87 : Nat) ({ cls := "com/example/stubwright/stubwright/idl/TokenMovedToPinLaw", name := "kindOf", desc := "(I)Lcom/example/stubwright/stubwright/idl/Token$Kind;" } : Jvm.MethodName)).before a0 Z = true := hw _ (List.mem_of_getElem? (i := 123) rfl)
theorem wd_124 {a0 : Array Value} {Z : State} (hw : ∀ d ∈ tables_1, d.before a0 Z = true) : (Jvm.Cond.static ({ cls := "com/example/stubwright/stubwright/idl/TokenMovedToPinLaw", name := "kindOf", desc := "(I)Lcom/example/stubwright/stubwright/idl/Token$Kind;" } : Jvm.MethodName)).before a0 Z = true := hw _ (List.mem_of_getElem? (i := 124) rfl)
theorem wd_125 {a0 : Array Value} {Z : State} (hw : ∀ d ∈ tables_1, d.before a0 Z = true) : (Jvm.Cond.code ({ cls := "com/example/stubwright/stubwright/idl/TokenMovedToPinLaw", name := "kindOf", desc := "(I)Lcom/example/stubwright/stubwright/idl/Token$Kind;" } : Jvm.MethodName) method_2_code (2 : Nat) (Option.some (Jvm.ClassFile.FieldType.object "com/example/stubwright/stubwright/idl/Token$Kind"))).before a0 Z = true := hw _ (List.mem_of_getElem? (i := 125) rfl)
theorem wd_126 {a0 : Array Value} {Z : State} (hw : ∀ d ∈ tables_1, d.before a0 Z = true) : (Jvm.Cond.constant "com/example/stubwright/stubwright/idl/TokenMovedToPinLaw" (7 : Nat) (2147483647 : Int32)).before a0 Z = true := hw _ (List.mem_of_getElem? (i := 126) rfl)
theorem wd_127 {a0 : Array Value} {Z : State} (hw : ∀ d ∈ tables_1, d.before a0 Z = true) : (Jvm.Cond.fieldLink "com/example/stubwright/stubwright/idl/TokenMovedToPinLaw" (26 : Nat) "com/example/stubwright/stubwright/idl/Token$Kind" "CHARACTER" "Lcom/example/stubwright/stubwright/idl/Token$Kind;").before a0 Z = true := hw _ (List.mem_of_getElem? (i := 127) rfl)
theorem wd_128 {a0 : Array Value} {Z : State} (hw : ∀ d ∈ tables_1, d.before a0 Z = true) : (Jvm.Cond.laysStatic "com/example/stubwright/stubwright/idl/Token$Kind" "CHARACTER" "Lcom/example/stubwright/stubwright/idl/Token$Kind;").before a0 Z = true := hw _ (List.mem_of_getElem? (i := 128) rfl)
theorem wd_129 {a0 : Array Value} {Z : State} (hw : ∀ d ∈ tables_1, d.before a0 Z = true) : (Jvm.Cond.classLink "com/example/stubwright/stubwright/idl/TokenMovedToPinLaw" (92 : Nat) "com/example/stubwright/stubwright/idl/Token").before a0 Z = true := hw _ (List.mem_of_getElem? (i := 129) rfl)
theorem wd_130 {a0 : Array Value} {Z : State} (hw : ∀ d ∈ tables_1, d.before a0 Z = true) : (Jvm.Cond.methodLink "com/example/stubwright/stubwright/idl/TokenMovedToPinLaw" (97 : Nat) ({ cls := "com/example/stubwright/stubwright/idl/Token", name := "<init>", desc := "(Lcom/example/stubwright/stubwright/idl/Token$Kind;Ljava/lang/String;Lcom/example/stubwright/stubwright/SourcePosition;)V" } : Jvm.MethodName)).before a0 Z = true := hw _ (List.mem_of_getElem? (i := 130) rfl)
theorem wd_131 {a0 : Array Value} {Z : State} (hw : ∀ d ∈ tables_1, d.before a0 Z = true) : (Jvm.Cond.instanceMethod ({ cls := "com/example/stubwright/stubwright/idl/Token", name := "<init>", desc := "(Lcom/example/stubwright/stubwright/idl/Token$Kind;Ljava/lang/String;Lcom/example/stubwright/stubwright/SourcePosition;)V" } : Jvm.MethodName)).before a0 Z = true := hw _ (List.mem_of_getElem? (i := 131) rfl)
theorem wd_132 {a0 : Array Value} {Z : State} (hw : ∀ d ∈ tables_1, d.before a0 Z = true) : (Jvm.Cond.code ({ cls := "com/example/stubwright/stubwright/idl/Token", name := "<init>", desc := "(Lcom/example/stubwright/stubwright/idl/Token$Kind;Ljava/lang/String;Lcom/example/stubwright/stubwright/SourcePosition;)V" } : Jvm.MethodName) prog_36_method_1_code (4 : Nat) (Option.none : Option Jvm.ClassFile.FieldType)).before a0 Z = true := hw _ (List.mem_of_getElem? (i := 132) rfl)
theorem wd_133 {a0 : Array Value} {Z : State} (hw : ∀ d ∈ tables_1, d.before a0 Z = true) : (Jvm.Cond.fieldLink "com/example/stubwright/stubwright/idl/TokenMovedToPinLaw" (44 : Nat) "com/example/stubwright/stubwright/idl/Token$Kind" "DIRECTIVE" "Lcom/example/stubwright/stubwright/idl/Token$Kind;").before a0 Z = true := hw _ (List.mem_of_getElem? (i := 133) rfl)
theorem wd_134 {a0 : Array Value} {Z : State} (hw : ∀ d ∈ tables_1, d.before a0 Z = true) : (Jvm.Cond.laysStatic "com/example/stubwright/stubwright/idl/Token$Kind" "DIRECTIVE" "Lcom/example/stubwright/stubwright/idl/Token$Kind;").before a0 Z = true := hw _ (List.mem_of_getElem? (i := 134) rfl)
theorem wd_135 {a0 : Array Value} {Z : State} (hw : ∀ d ∈ tables_1, d.before a0 Z = true) : (Jvm.Cond.fieldLink "com/example/stubwright/stubwright/idl/TokenMovedToPinLaw" (62 : Nat) "com/example/stubwright/stubwright/idl/Token$Kind" "END" "Lcom/example/stubwright/stubwright/idl/Token$Kind;").before a0 Z = true := hw _ (List.mem_of_getElem? (i := 135) rfl)
theorem wd_136 {a0 : Array Value} {Z : State} (hw : ∀ d ∈ tables_1, d.before a0 Z = true) : (Jvm.Cond.laysStatic "com/example/stubwright/stubwright/idl/Token$Kind" "END" "Lcom/example/stubwright/stubwright/idl/Token$Kind;").before a0 Z = true := hw _ (List.mem_of_getElem? (i := 136) rfl)
theorem wd_137 {a0 : Array Value} {Z : State} (hw : ∀ d ∈ tables_1, d.before a0 Z = true) : (Jvm.Cond.fieldLink "com/example/stubwright/stubwright/idl/TokenMovedToPinLaw" (50 : Nat) "com/example/stubwright/stubwright/idl/Token$Kind" "HEADER_NAME" "Lcom/example/stubwright/stubwright/idl/Token$Kind;").before a0 Z = true := hw _ (List.mem_of_getElem? (i := 137) rfl)
theorem wd_138 {a0 : Array Value} {Z : State} (hw : ∀ d ∈ tables_1, d.before a0 Z = true) : (Jvm.Cond.laysStatic "com/example/stubwright/stubwright/idl/Token$Kind" "HEADER_NAME" "Lcom/example/stubwright/stubwright/idl/Token$Kind;").before a0 Z = true := hw _ (List.mem_of_getElem? (i := 138) rfl)
theorem wd_139 {a0 : Array Value} {Z : State} (hw : ∀ d ∈ tables_1, d.before a0 Z = true) : (Jvm.Cond.fieldLink "com/example/stubwright/stubwright/idl/TokenMovedToPinLaw" (29 : Nat) "com/example/stubwright/stubwright/idl/Token$Kind" "WIDE_CHARACTER" "Lcom/example/stubwright/stubwright/idl/Token$Kind;").before a0 Z = true := hw _ (List.mem_of_getElem? (i := 139) rfl)
theorem wd_140 {a0 : Array Value} {Z : State} (hw : ∀ d ∈ tables_1, d.before a0 Z = true) : (Jvm.Cond.laysStatic "com/example/stubwright/stubwright/idl/Token$Kind" "WIDE_CHARACTER" "Lcom/example/stubwright/stubwright/idl/Token$Kind;").before a0 Z = true := hw _ (List.mem_of_getElem? (i := 140) rfl)
theorem wd_141 {a0 : Array Value} {Z : State} (hw : ∀ d ∈ tables_1, d.before a0 Z = true) : (Jvm.Cond.fieldLink "com/example/stubwright/stubwright/idl/TokenMovedToPinLaw" (56 : Nat) "com/example/stubwright/stubwright/idl/Token$Kind" "INCLUDE_END" "Lcom/example/stubwright/stubwright/idl/Token$Kind;").before a0 Z = true := hw _ (List.mem_of_getElem? (i := 141) rfl)
theorem wd_142 {a0 : Array Value} {Z : State} (hw : ∀ d ∈ tables_1, d.before a0 Z = true) : (Jvm.Cond.laysStatic "com/example/stubwright/stubwright/idl/Token$Kind" "INCLUDE_END" "Lcom/example/stubwright/stubwright/idl/Token$Kind;").before a0 Z = true := hw _ (List.mem_of_getElem? (i := 142) rfl)
theorem wd_143 {a0 : Array Value} {Z : State} (hw : ∀ d ∈ tables_1, d.before a0 Z = true) : (Jvm.Cond.fieldLink "com/example/stubwright/stubwright/idl/TokenMovedToPinLaw" (35 : Nat) "com/example/stubwright/stubwright/idl/Token$Kind" "WIDE_STRING" "Lcom/example/stubwright/stubwright/idl/Token$Kind;").before a0 Z = true := hw _ (List.mem_of_getElem? (i := 143) rfl)
theorem wd_144 {a0 : Array Value} {Z : State} (hw : ∀ d ∈ tables_1, d.before a0 Z = true) : (Jvm.Cond.laysStatic "com/example/stubwright/stubwright/idl/Token$Kind" "WIDE_STRING" "Lcom/example/stubwright/stubwright/idl/Token$Kind;").before a0 Z = true := hw _ (List.mem_of_getElem? (i := 144) rfl)
theorem wd_145 {a0 : Array Value} {Z : State} (hw : ∀ d ∈ tables_1, d.before a0 Z = true) : (Jvm.Cond.fieldLink "com/example/stubwright/stubwright/idl/TokenMovedToPinLaw" (17 : Nat) "com/example/stubwright/stubwright/idl/Token$Kind" "INTEGER" "Lcom/example/stubwright/stubwright/idl/Token$Kind;").before a0 Z = true := hw _ (List.mem_of_getElem? (i := 145) rfl)
theorem wd_146 {a0 : Array Value} {Z : State} (hw : ∀ d ∈ tables_1, d.before a0 Z = true) : (Jvm.Cond.laysStatic "com/example/stubwright/stubwright/idl/Token$Kind" "INTEGER" "Lcom/example/stubwright/stubwright/idl/Token$Kind;").before a0 Z = true := hw _ (List.mem_of_getElem? (i := 146) rfl)
theorem wd_147 {a0 : Array Value} {Z : State} (hw : ∀ d ∈ tables_1, d.before a0 Z = true) : (Jvm.Cond.fieldLink "com/example/stubwright/stubwright/idl/TokenMovedToPinLaw" (23 : Nat) "com/example/stubwright/stubwright/idl/Token$Kind" "FIXED_POINT" "Lcom/example/stubwright/stubwright/idl/Token$Kind;").before a0 Z = true := hw _ (List.mem_of_getElem? (i := 147) rfl)
theorem wd_148 {a0 : Array Value} {Z : State} (hw : ∀ d ∈ tables_1, d.before a0 Z = true) : (Jvm.Cond.laysStatic "com/example/stubwright/stubwright/idl/Token$Kind" "FIXED_POINT" "Lcom/example/stubwright/stubwright/idl/Token$Kind;").before a0 Z = true := hw _ (List.mem_of_getElem? (i := 148) rfl)
theorem wd_149 {a0 : Array Value} {Z : State} (hw : ∀ d ∈ tables_1, d.before a0 Z = true) : (Jvm.Cond.fieldLink "com/example/stubwright/stubwright/idl/TokenMovedToPinLaw" (20 : Nat) "com/example/stubwright/stubwright/idl/Token$Kind" "FLOATING_POINT" "Lcom/example/stubwright/stubwright/idl/Token$Kind;").before a0 Z = true := hw _ (List.mem_of_getElem? (i := 149) rfl)
theorem wd_150 {a0 : Array Value} {Z : State} (hw : ∀ d ∈ tables_1, d.before a0 Z = true) : (Jvm.Cond.laysStatic "com/example/stubwright/stubwright/idl/Token$Kind" "FLOATING_POINT" "Lcom/example/stubwright/stubwright/idl/Token$Kind;").before a0 Z = true := hw _ (List.mem_of_getElem? (i := 150) rfl)
theorem wd_151 {a0 : Array Value} {Z : State} (hw : ∀ d ∈ tables_1, d.before a0 Z = true) : (Jvm.Cond.fieldLink "com/example/stubwright/stubwright/idl/TokenMovedToPinLaw" (38 : Nat) "com/example/stubwright/stubwright/idl/Token$Kind" "PUNCTUATOR" "Lcom/example/stubwright/stubwright/idl/Token$Kind;").before a0 Z = true := hw _ (List.mem_of_getElem? (i := 151) rfl)
theorem wd_152 {a0 : Array Value} {Z : State} (hw : ∀ d ∈ tables_1, d.before a0 Z = true) : (Jvm.Cond.laysStatic "com/example/stubwright/stubwright/idl/Token$Kind" "PUNCTUATOR" "Lcom/example/stubwright/stubwright/idl/Token$Kind;").before a0 Z = true := hw _ (List.mem_of_getElem? (i := 152) rfl)
theorem wd_153 {a0 : Array Value} {Z : State} (hw : ∀ d ∈ tables_1, d.before a0 Z = true) : (Jvm.Cond.fieldLink "com/example/stubwright/stubwright/idl/TokenMovedToPinLaw" (14 : Nat) "com/example/stubwright/stubwright/idl/Token$Kind" "KEYWORD" "Lcom/example/stubwright/stubwright/idl/Token$Kind;").before a0 Z = true := hw _ (List.mem_of_getElem? (i := 153) rfl)
theorem wd_154 {a0 : Array Value} {Z : State} (hw : ∀ d ∈ tables_1, d.before a0 Z = true) : (Jvm.Cond.laysStatic "com/example/stubwright/stubwright/idl/Token$Kind" "KEYWORD" "Lcom/example/stubwright/stubwright/idl/Token$Kind;").before a0 Z = true := hw _ (List.mem_of_getElem? (i := 154) rfl)
theorem wd_155 {a0 : Array Value} {Z : State} (hw : ∀ d ∈ tables_1, d.before a0 Z = true) : (Jvm.Cond.fieldLink "com/example/stubwright/stubwright/idl/TokenMovedToPinLaw" (53 : Nat) "com/example/stubwright/stubwright/idl/Token$Kind" "INCLUDE_START" "Lcom/example/stubwright/stubwright/idl/Token$Kind;").before a0 Z = true := hw _ (List.mem_of_getElem? (i := 155) rfl)
theorem wd_156 {a0 : Array Value} {Z : State} (hw : ∀ d ∈ tables_1, d.before a0 Z = true) : (Jvm.Cond.laysStatic "com/example/stubwright/stubwright/idl/Token$Kind" "INCLUDE_START" "Lcom/example/stubwright/stubwright/idl/Token$Kind;").before a0 Z = true := hw _ (List.mem_of_getElem? (i := 156) rfl)
theorem wd_157 {a0 : Array Value} {Z : State} (hw : ∀ d ∈ tables_1, d.before a0 Z = true) : (Jvm.Cond.fieldLink "com/example/stubwright/stubwright/idl/TokenMovedToPinLaw" (32 : Nat) "com/example/stubwright/stubwright/idl/Token$Kind" "STRING" "Lcom/example/stubwright/stubwright/idl/Token$Kind;").before a0 Z = true := hw _ (List.mem_of_getElem? (i := 157) rfl)
theorem wd_158 {a0 : Array Value} {Z : State} (hw : ∀ d ∈ tables_1, d.before a0 Z = true) : (Jvm.Cond.laysStatic "com/example/stubwright/stubwright/idl/Token$Kind" "STRING" "Lcom/example/stubwright/stubwright/idl/Token$Kind;").before a0 Z = true := hw _ (List.mem_of_getElem? (i := 158) rfl)
theorem wd_159 {a0 : Array Value} {Z : State} (hw : ∀ d ∈ tables_1, d.before a0 Z = true) : (Jvm.Cond.fieldLink "com/example/stubwright/stubwright/idl/TokenMovedToPinLaw" (47 : Nat) "com/example/stubwright/stubwright/idl/Token$Kind" "DIRECTIVE_END" "Lcom/example/stubwright/stubwright/idl/Token$Kind;").before a0 Z = true := hw _ (List.mem_of_getElem? (i := 159) rfl)
theorem wd_160 {a0 : Array Value} {Z : State} (hw : ∀ d ∈ tables_1, d.before a0 Z = true) : (Jvm.Cond.laysStatic "com/example/stubwright/stubwright/idl/Token$Kind" "DIRECTIVE_END" "Lcom/example/stubwright/stubwright/idl/Token$Kind;").before a0 Z = true := hw _ (List.mem_of_getElem? (i := 160) rfl)
theorem wd_161 {a0 : Array Value} {Z : State} (hw : ∀ d ∈ tables_1, d.before a0 Z = true) : (Jvm.Cond.fieldLink "com/example/stubwright/stubwright/idl/TokenMovedToPinLaw" (41 : Nat) "com/example/stubwright/stubwright/idl/Token$Kind" "OTHER" "Lcom/example/stubwright/stubwright/idl/Token$Kind;").before a0 Z = true := hw _ (List.mem_of_getElem? (i := 161) rfl)
theorem wd_162 {a0 : Array Value} {Z : State} (hw : ∀ d ∈ tables_1, d.before a0 Z = true) : (Jvm.Cond.laysStatic "com/example/stubwright/stubwright/idl/Token$Kind" "OTHER" "Lcom/example/stubwright/stubwright/idl/Token$Kind;").before a0 Z = true := hw _ (List.mem_of_getElem? (i := 162) rfl)
theorem wd_163 {a0 : Array Value} {Z : State} (hw : ∀ d ∈ tables_1, d.before a0 Z = true) : (Jvm.Cond.fieldLink "com/example/stubwright/stubwright/idl/TokenMovedToPinLaw" (59 : Nat) "com/example/stubwright/stubwright/idl/Token$Kind" "PRAGMA" "Lcom/example/stubwright/stubwright/idl/Token$Kind;").before a0 Z = true := hw _ (List.mem_of_getElem? (i := 163) rfl)
theorem wd_164 {a0 : Array Value} {Z : State} (hw : ∀ d ∈ tables_1, d.before a0 Z = true) : (Jvm.Cond.laysStatic "com/example/stubwright/stubwright/idl/Token$Kind" "PRAGMA" "Lcom/example/stubwright/stubwright/idl/Token$Kind;").before a0 Z = true := hw _ (List.mem_of_getElem? (i := 164) rfl)
theorem pn_0 : plainName "java/lang/String" = true := by first | (simp [plainName, overriddenIn]; done) | decide +kernel
theorem pn_1 : plainName "com/example/stubwright/stubwright/idl/TokenMovedToPinLaw" = true := by first | (simp [plainName, overriddenIn]; done) | decide +kernel
theorem pn_2 : plainName "java/lang/StringLatin1" = true := by first | (simp [plainName, overriddenIn]; done) | decide +kernel
theorem pn_3 : plainName "java/util/Objects" = true := by first | (simp [plainName, overriddenIn]; done) | decide +kernel
theorem pn_4 : plainName "com/example/stubwright/stubwright/SourcePosition" = true := by first | (simp [plainName, overriddenIn]; done) | decide +kernel
theorem pn_5 : plainName "com/example/stubwright/stubwright/idl/Token" = true := by first | (simp [plainName, overriddenIn]; done) | decide +kernel
theorem pd_0 : parseMethodDescriptor "([CIILjava/lang/Void;)V" = some ⟨[(.array .char), .int, .int, (.object "java/lang/Void")], none⟩ := by decide +kernel
theorem pd_1 : parseMethodDescriptor "([C)V" = some ⟨[(.array .char)], none⟩ := by decide +kernel
theorem pd_2 : parseMethodDescriptor "(C)Z" = some ⟨[.char], some .boolean⟩ := by decide +kernel
theorem pd_3 : parseMethodDescriptor "(C)[B" = some ⟨[.char], some (.array .byte)⟩ := by decide +kernel
theorem pd_4 : parseMethodDescriptor "([BB)V" = some ⟨[(.array .byte), .byte], none⟩ := by decide +kernel
theorem pd_5 : parseMethodDescriptor "(Ljava/lang/Object;Ljava/lang/String;)Ljava/lang/Object;" = some ⟨[(.object "java/lang/Object"), (.object "java/lang/String")], some (.object "java/lang/Object")⟩ := by decide +kernel
theorem pd_6 : parseMethodDescriptor "(Lcom/example/stubwright/stubwright/idl/Token$Kind;Ljava/lang/String;Lcom/example/stubwright/stubwright/SourcePosition;Z)V" = some ⟨[(.object "com/example/stubwright/stubwright/idl/Token$Kind"), (.object "java/lang/String"), (.object "com/example/stubwright/stubwright/SourcePosition"), .boolean], none⟩ := by decide +kernel
theorem pd_7 : parseMethodDescriptor "(ICCC)Ljava/lang/String;" = some ⟨[.int, .char, .char, .char], some (.object "java/lang/String")⟩ := by decide +kernel
theorem pd_8 : parseMethodDescriptor "(C)Ljava/lang/String;" = some ⟨[.char], some (.object "java/lang/String")⟩ := by decide +kernel
theorem pd_9 : parseMethodDescriptor "(Ljava/lang/String;II)V" = some ⟨[(.object "java/lang/String"), .int, .int], none⟩ := by decide +kernel
theorem pd_10 : parseMethodDescriptor "(I)Lcom/example/stubwright/stubwright/idl/Token$Kind;" = some ⟨[.int], some (.object "com/example/stubwright/stubwright/idl/Token$Kind")⟩ := by decide +kernel
theorem pd_11 : parseMethodDescriptor "(Lcom/example/stubwright/stubwright/idl/Token$Kind;Ljava/lang/String;Lcom/example/stubwright/stubwright/SourcePosition;)V" = some ⟨[(.object "com/example/stubwright/stubwright/idl/Token$Kind"), (.object "java/lang/String"), (.object "com/example/stubwright/stubwright/SourcePosition")], none⟩ := by decide +kernel
theorem pd_12 : parseMethodDescriptor "(Lcom/example/stubwright/stubwright/SourcePosition;)Lcom/example/stubwright/stubwright/idl/Token;" = some ⟨[(.object "com/example/stubwright/stubwright/SourcePosition")], some (.object "com/example/stubwright/stubwright/idl/Token")⟩ := by decide +kernel
theorem pd_13 : parseMethodDescriptor "()Lcom/example/stubwright/stubwright/idl/Token$Kind;" = some ⟨[], some (.object "com/example/stubwright/stubwright/idl/Token$Kind")⟩ := by decide +kernel
theorem pd_14 : parseMethodDescriptor "()Ljava/lang/String;" = some ⟨[], some (.object "java/lang/String")⟩ := by decide +kernel
theorem pd_15 : parseMethodDescriptor "(Ljava/lang/Object;)Z" = some ⟨[(.object "java/lang/Object")], some .boolean⟩ := by decide +kernel
theorem pd_16 : parseMethodDescriptor "()Z" = some ⟨[], some .boolean⟩ := by decide +kernel
theorem pd_17 : parseMethodDescriptor "()Lcom/example/stubwright/stubwright/SourcePosition;" = some ⟨[], some (.object "com/example/stubwright/stubwright/SourcePosition")⟩ := by decide +kernel
theorem pd_18 : parseMethodDescriptor "(Ljava/lang/String;Lcom/example/stubwright/stubwright/SourcePosition;)Lcom/example/stubwright/stubwright/idl/Token;" = some ⟨[(.object "java/lang/String"), (.object "com/example/stubwright/stubwright/SourcePosition")], some (.object "com/example/stubwright/stubwright/idl/Token")⟩ := by decide +kernel
theorem pf_0 : parseFieldDescriptor "[B" = some (.array .byte) := by decide +kernel
theorem pf_1 : parseFieldDescriptor "B" = some .byte := by decide +kernel
theorem pf_2 : parseFieldDescriptor "Ljava/lang/String;" = some (.object "java/lang/String") := by decide +kernel
theorem pf_3 : parseFieldDescriptor "I" = some .int := by decide +kernel
theorem pf_4 : parseFieldDescriptor "Lcom/example/stubwright/stubwright/idl/Token$Kind;" = some (.object "com/example/stubwright/stubwright/idl/Token$Kind") := by decide +kernel
theorem pf_5 : parseFieldDescriptor "Lcom/example/stubwright/stubwright/SourcePosition;" = some (.object "com/example/stubwright/stubwright/SourcePosition") := by decide +kernel
theorem pf_6 : parseFieldDescriptor "Z" = some .boolean := by decide +kernel
theorem sn_0 {a0 : Array Value} {Z : State} (hw : ∀ d ∈ tables_1, d.before a0 Z = true) : Jvm.RoadKit.slotOf Z "java/lang/String" "coder" "B" ≠ Jvm.RoadKit.slotOf Z "java/lang/String" "value" "[B" := slot_ne (a0 := a0) (C := "java/lang/String") (Or.inr (wd_32 hw)) (Or.inr (wd_34 hw)) (by decide) pf_1 pf_0
theorem sn_1 {a0 : Array Value} {Z : State} (hw : ∀ d ∈ tables_1, d.before a0 Z = true) : Jvm.RoadKit.slotOf Z "java/lang/String" "value" "[B" ≠ Jvm.RoadKit.slotOf Z "java/lang/String" "coder" "B" := slot_ne (a0 := a0) (C := "java/lang/String") (Or.inr (wd_34 hw)) (Or.inr (wd_32 hw)) (by decide) pf_0 pf_1
theorem sn_2 {a0 : Array Value} {Z : State} (hw : ∀ d ∈ tables_1, d.before a0 Z = true) : Jvm.RoadKit.slotOf Z "com/example/stubwright/stubwright/SourcePosition" "line" "I" ≠ Jvm.RoadKit.slotOf Z "com/example/stubwright/stubwright/SourcePosition" "file" "Ljava/lang/String;" := slot_ne (a0 := a0) (C := "com/example/stubwright/stubwright/SourcePosition") (Or.inr (wd_67 hw)) (Or.inr (wd_65 hw)) (by decide) pf_3 pf_2
theorem sn_3 {a0 : Array Value} {Z : State} (hw : ∀ d ∈ tables_1, d.before a0 Z = true) : Jvm.RoadKit.slotOf Z "com/example/stubwright/stubwright/SourcePosition" "column" "I" ≠ Jvm.RoadKit.slotOf Z "com/example/stubwright/stubwright/SourcePosition" "file" "Ljava/lang/String;" := slot_ne (a0 := a0) (C := "com/example/stubwright/stubwright/SourcePosition") (Or.inr (wd_69 hw)) (Or.inr (wd_65 hw)) (by decide) pf_3 pf_2
theorem sn_4 {a0 : Array Value} {Z : State} (hw : ∀ d ∈ tables_1, d.before a0 Z = true) : Jvm.RoadKit.slotOf Z "com/example/stubwright/stubwright/SourcePosition" "column" "I" ≠ Jvm.RoadKit.slotOf Z "com/example/stubwright/stubwright/SourcePosition" "line" "I" := slot_ne (a0 := a0) (C := "com/example/stubwright/stubwright/SourcePosition") (Or.inr (wd_69 hw)) (Or.inr (wd_67 hw)) (by decide) pf_3 pf_3
theorem sn_5 {a0 : Array Value} {Z : State} (hw : ∀ d ∈ tables_1, d.before a0 Z = true) : Jvm.RoadKit.slotOf Z "com/example/stubwright/stubwright/idl/Token" "text" "Ljava/lang/String;" ≠ Jvm.RoadKit.slotOf Z "com/example/stubwright/stubwright/idl/Token" "kind" "Lcom/example/stubwright/stubwright/idl/Token$Kind;" := slot_ne (a0 := a0) (C := "com/example/stubwright/stubwright/idl/Token") (Or.inr (wd_87 hw)) (Or.inr (wd_85 hw)) (by decide) pf_2 pf_4
theorem sn_6 {a0 : Array Value} {Z : State} (hw : ∀ d ∈ tables_1, d.before a0 Z = true) : Jvm.RoadKit.slotOf Z "com/example/stubwright/stubwright/idl/Token" "position" "Lcom/example/stubwright/stubwright/SourcePosition;" ≠ Jvm.RoadKit.slotOf Z "com/example/stubwright/stubwright/idl/Token" "kind" "Lcom/example/stubwright/stubwright/idl/Token$Kind;" := slot_ne (a0 := a0) (C := "com/example/stubwright/stubwright/idl/Token") (Or.inr (wd_89 hw)) (Or.inr (wd_85 hw)) (by decide) pf_5 pf_4
theorem sn_7 {a0 : Array Value} {Z : State} (hw : ∀ d ∈ tables_1, d.before a0 Z = true) : Jvm.RoadKit.slotOf Z "com/example/stubwright/stubwright/idl/Token" "position" "Lcom/example/stubwright/stubwright/SourcePosition;" ≠ Jvm.RoadKit.slotOf Z "com/example/stubwright/stubwright/idl/Token" "text" "Ljava/lang/String;" := slot_ne (a0 := a0) (C := "com/example/stubwright/stubwright/idl/Token") (Or.inr (wd_89 hw)) (Or.inr (wd_87 hw)) (by decide) pf_5 pf_2
theorem sn_8 {a0 : Array Value} {Z : State} (hw : ∀ d ∈ tables_1, d.before a0 Z = true) : Jvm.RoadKit.slotOf Z "com/example/stubwright/stubwright/idl/Token" "escaped" "Z" ≠ Jvm.RoadKit.slotOf Z "com/example/stubwright/stubwright/idl/Token" "kind" "Lcom/example/stubwright/stubwright/idl/Token$Kind;" := slot_ne (a0 := a0) (C := "com/example/stubwright/stubwright/idl/Token") (Or.inr (wd_91 hw)) (Or.inr (wd_85 hw)) (by decide) pf_6 pf_4
theorem sn_9 {a0 : Array Value} {Z : State} (hw : ∀ d ∈ tables_1, d.before a0 Z = true) : Jvm.RoadKit.slotOf Z "com/example/stubwright/stubwright/idl/Token" "escaped" "Z" ≠ Jvm.RoadKit.slotOf Z "com/example/stubwright/stubwright/idl/Token" "text" "Ljava/lang/String;" := slot_ne (a0 := a0) (C := "com/example/stubwright/stubwright/idl/Token") (Or.inr (wd_91 hw)) (Or.inr (wd_87 hw)) (by decide) pf_6 pf_2
theorem sn_10 {a0 : Array Value} {Z : State} (hw : ∀ d ∈ tables_1, d.before a0 Z = true) : Jvm.RoadKit.slotOf Z "com/example/stubwright/stubwright/idl/Token" "escaped" "Z" ≠ Jvm.RoadKit.slotOf Z "com/example/stubwright/stubwright/idl/Token" "position" "Lcom/example/stubwright/stubwright/SourcePosition;" := slot_ne (a0 := a0) (C := "com/example/stubwright/stubwright/idl/Token") (Or.inr (wd_91 hw)) (Or.inr (wd_89 hw)) (by decide) pf_6 pf_5
theorem sn_11 {a0 : Array Value} {Z : State} (hw : ∀ d ∈ tables_1, d.before a0 Z = true) : Jvm.RoadKit.slotOf Z "com/example/stubwright/stubwright/idl/Token" "kind" "Lcom/example/stubwright/stubwright/idl/Token$Kind;" ≠ Jvm.RoadKit.slotOf Z "com/example/stubwright/stubwright/idl/Token" "text" "Ljava/lang/String;" := slot_ne (a0 := a0) (C := "com/example/stubwright/stubwright/idl/Token") (Or.inr (wd_85 hw)) (Or.inr (wd_87 hw)) (by decide) pf_4 pf_2
theorem sn_12 {a0 : Array Value} {Z : State} (hw : ∀ d ∈ tables_1, d.before a0 Z = true) : Jvm.RoadKit.slotOf Z "com/example/stubwright/stubwright/idl/Token" "kind" "Lcom/example/stubwright/stubwright/idl/Token$Kind;" ≠ Jvm.RoadKit.slotOf Z "com/example/stubwright/stubwright/idl/Token" "position" "Lcom/example/stubwright/stubwright/SourcePosition;" := slot_ne (a0 := a0) (C := "com/example/stubwright/stubwright/idl/Token") (Or.inr (wd_85 hw)) (Or.inr (wd_89 hw)) (by decide) pf_4 pf_5
theorem sn_13 {a0 : Array Value} {Z : State} (hw : ∀ d ∈ tables_1, d.before a0 Z = true) : Jvm.RoadKit.slotOf Z "com/example/stubwright/stubwright/idl/Token" "kind" "Lcom/example/stubwright/stubwright/idl/Token$Kind;" ≠ Jvm.RoadKit.slotOf Z "com/example/stubwright/stubwright/idl/Token" "escaped" "Z" := slot_ne (a0 := a0) (C := "com/example/stubwright/stubwright/idl/Token") (Or.inr (wd_85 hw)) (Or.inr (wd_91 hw)) (by decide) pf_4 pf_6
theorem sn_14 {a0 : Array Value} {Z : State} (hw : ∀ d ∈ tables_1, d.before a0 Z = true) : Jvm.RoadKit.slotOf Z "com/example/stubwright/stubwright/idl/Token" "text" "Ljava/lang/String;" ≠ Jvm.RoadKit.slotOf Z "com/example/stubwright/stubwright/idl/Token" "position" "Lcom/example/stubwright/stubwright/SourcePosition;" := slot_ne (a0 := a0) (C := "com/example/stubwright/stubwright/idl/Token") (Or.inr (wd_87 hw)) (Or.inr (wd_89 hw)) (by decide) pf_2 pf_5
theorem sn_15 {a0 : Array Value} {Z : State} (hw : ∀ d ∈ tables_1, d.before a0 Z = true) : Jvm.RoadKit.slotOf Z "com/example/stubwright/stubwright/idl/Token" "text" "Ljava/lang/String;" ≠ Jvm.RoadKit.slotOf Z "com/example/stubwright/stubwright/idl/Token" "escaped" "Z" := slot_ne (a0 := a0) (C := "com/example/stubwright/stubwright/idl/Token") (Or.inr (wd_87 hw)) (Or.inr (wd_91 hw)) (by decide) pf_2 pf_6
theorem sn_16 {a0 : Array Value} {Z : State} (hw : ∀ d ∈ tables_1, d.before a0 Z = true) : Jvm.RoadKit.slotOf Z "com/example/stubwright/stubwright/idl/Token" "position" "Lcom/example/stubwright/stubwright/SourcePosition;" ≠ Jvm.RoadKit.slotOf Z "com/example/stubwright/stubwright/idl/Token" "escaped" "Z" := slot_ne (a0 := a0) (C := "com/example/stubwright/stubwright/idl/Token") (Or.inr (wd_89 hw)) (Or.inr (wd_91 hw)) (by decide) pf_5 pf_6
theorem d_jdk_31_method_11_code_0 : decode jdk_31_method_11_code 0 = .ok (.aload_n 0, 1) := by decide +kernel
theorem d_jdk_31_method_11_code_1 : decode jdk_31_method_11_code 1 = .ok (.ifnonnull 12, 3) := by decide +kernel
theorem d_jdk_31_method_11_code_13 : decode jdk_31_method_11_code 13 = .ok (.aload_n 0, 1) := by decide +kernel
theorem d_jdk_31_method_11_code_14 : decode jdk_31_method_11_code 14 = .ok (.areturn, 1) := by decide +kernel
theorem d_jdk_42_method_139_code_0 : decode jdk_42_method_139_code 0 = .ok (.getstatic 38, 3) := by decide +kernel
theorem d_jdk_42_method_139_code_10 : decode jdk_42_method_139_code 10 = .ok (.ifCond .eq 16, 3) := by decide +kernel
theorem d_jdk_42_method_139_code_13 : decode jdk_42_method_139_code 13 = .ok (.new 10, 3) := by decide +kernel
theorem d_jdk_42_method_139_code_16 : decode jdk_42_method_139_code 16 = .ok (.dup, 1) := by decide +kernel
theorem d_jdk_42_method_139_code_17 : decode jdk_42_method_139_code 17 = .ok (.iload_n 0, 1) := by decide +kernel
theorem d_jdk_42_method_139_code_18 : decode jdk_42_method_139_code 18 = .ok (.invokestatic 1018, 3) := by decide +kernel
theorem d_jdk_42_method_139_code_21 : decode jdk_42_method_139_code 21 = .ok (.iconst 0, 1) := by decide +kernel
theorem d_jdk_42_method_139_code_22 : decode jdk_42_method_139_code 22 = .ok (.invokespecial 209, 3) := by decide +kernel
theorem d_jdk_42_method_139_code_25 : decode jdk_42_method_139_code 25 = .ok (.areturn, 1) := by decide +kernel
theorem d_jdk_42_method_139_code_3 : decode jdk_42_method_139_code 3 = .ok (.ifCond .eq 23, 3) := by decide +kernel
theorem d_jdk_42_method_139_code_6 : decode jdk_42_method_139_code 6 = .ok (.iload_n 0, 1) := by decide +kernel
theorem d_jdk_42_method_139_code_7 : decode jdk_42_method_139_code 7 = .ok (.invokestatic 1015, 3) := by decide +kernel
theorem d_jdk_42_method_149_code_0 : decode jdk_42_method_149_code 0 = .ok (.aload_n 0, 1) := by decide +kernel
theorem d_jdk_42_method_149_code_1 : decode jdk_42_method_149_code 1 = .ok (.invokespecial 1, 3) := by decide +kernel
theorem d_jdk_42_method_149_code_11 : decode jdk_42_method_149_code 11 = .ok (.getfield 9, 3) := by decide +kernel
theorem d_jdk_42_method_149_code_14 : decode jdk_42_method_149_code 14 = .ok (.putfield 9, 3) := by decide +kernel
theorem d_jdk_42_method_149_code_17 : decode jdk_42_method_149_code 17 = .ok (.aload_n 0, 1) := by decide +kernel
theorem d_jdk_42_method_149_code_18 : decode jdk_42_method_149_code 18 = .ok (.ldc 7, 2) := by decide +kernel
theorem d_jdk_42_method_149_code_20 : decode jdk_42_method_149_code 20 = .ok (.getfield 15, 3) := by decide +kernel
theorem d_jdk_42_method_149_code_23 : decode jdk_42_method_149_code 23 = .ok (.putfield 15, 3) := by decide +kernel
theorem d_jdk_42_method_149_code_26 : decode jdk_42_method_149_code 26 = .ok (.return_, 1) := by decide +kernel
theorem d_jdk_42_method_149_code_4 : decode jdk_42_method_149_code 4 = .ok (.iload_n 3, 1) := by decide +kernel
theorem d_jdk_42_method_149_code_5 : decode jdk_42_method_149_code 5 = .ok (.ifCond .ne 22, 3) := by decide +kernel
theorem d_jdk_42_method_149_code_8 : decode jdk_42_method_149_code 8 = .ok (.aload_n 0, 1) := by decide +kernel
theorem d_jdk_42_method_149_code_9 : decode jdk_42_method_149_code 9 = .ok (.ldc 7, 2) := by decide +kernel
theorem d_jdk_42_method_151_code_0 : decode jdk_42_method_151_code 0 = .ok (.aload_n 0, 1) := by decide +kernel
theorem d_jdk_42_method_151_code_1 : decode jdk_42_method_151_code 1 = .ok (.invokespecial 1, 3) := by decide +kernel
theorem d_jdk_42_method_151_code_10 : decode jdk_42_method_151_code 10 = .ok (.iload_n 2, 1) := by decide +kernel
theorem d_jdk_42_method_151_code_11 : decode jdk_42_method_151_code 11 = .ok (.putfield 15, 3) := by decide +kernel
theorem d_jdk_42_method_151_code_14 : decode jdk_42_method_151_code 14 = .ok (.return_, 1) := by decide +kernel
theorem d_jdk_42_method_151_code_4 : decode jdk_42_method_151_code 4 = .ok (.aload_n 0, 1) := by decide +kernel
theorem d_jdk_42_method_151_code_5 : decode jdk_42_method_151_code 5 = .ok (.aload_n 1, 1) := by decide +kernel
theorem d_jdk_42_method_151_code_6 : decode jdk_42_method_151_code 6 = .ok (.putfield 9, 3) := by decide +kernel
theorem d_jdk_42_method_151_code_9 : decode jdk_42_method_151_code 9 = .ok (.aload_n 0, 1) := by decide +kernel
theorem d_jdk_42_method_3_code_0 : decode jdk_42_method_3_code 0 = .ok (.aload_n 0, 1) := by decide +kernel
theorem d_jdk_42_method_3_code_1 : decode jdk_42_method_3_code 1 = .ok (.aload_n 1, 1) := by decide +kernel
theorem d_jdk_42_method_3_code_2 : decode jdk_42_method_3_code 2 = .ok (.iconst 0, 1) := by decide +kernel
theorem d_jdk_42_method_3_code_3 : decode jdk_42_method_3_code 3 = .ok (.aload_n 1, 1) := by decide +kernel
theorem d_jdk_42_method_3_code_4 : decode jdk_42_method_3_code 4 = .ok (.arraylength, 1) := by decide +kernel
theorem d_jdk_42_method_3_code_5 : decode jdk_42_method_3_code 5 = .ok (.aconst_null, 1) := by decide +kernel
theorem d_jdk_42_method_3_code_6 : decode jdk_42_method_3_code 6 = .ok (.invokespecial 27, 3) := by decide +kernel
theorem d_jdk_42_method_3_code_9 : decode jdk_42_method_3_code 9 = .ok (.return_, 1) := by decide +kernel
theorem d_jdk_42_method_66_code_0 : decode jdk_42_method_66_code 0 = .ok (.aload_n 0, 1) := by decide +kernel
theorem d_jdk_42_method_66_code_1 : decode jdk_42_method_66_code 1 = .ok (.aload_n 1, 1) := by decide +kernel
theorem d_jdk_42_method_66_code_2 : decode jdk_42_method_66_code 2 = .ok (.if_acmp .ne 5, 3) := by decide +kernel
theorem d_jdk_42_method_66_code_5 : decode jdk_42_method_66_code 5 = .ok (.iconst 1, 1) := by decide +kernel
theorem d_jdk_42_method_66_code_6 : decode jdk_42_method_66_code 6 = .ok (.ireturn, 1) := by decide +kernel
theorem d_jdk_43_method_3_code_0 : decode jdk_43_method_3_code 0 = .ok (.iload_n 0, 1) := by decide +kernel
theorem d_jdk_43_method_3_code_1 : decode jdk_43_method_3_code 1 = .ok (.sipush 255, 3) := by decide +kernel
theorem d_jdk_43_method_3_code_12 : decode jdk_43_method_3_code 12 = .ok (.ireturn, 1) := by decide +kernel
theorem d_jdk_43_method_3_code_4 : decode jdk_43_method_3_code 4 = .ok (.if_icmp .gt 7, 3) := by decide +kernel
theorem d_jdk_43_method_3_code_7 : decode jdk_43_method_3_code 7 = .ok (.iconst 1, 1) := by decide +kernel
theorem d_jdk_43_method_3_code_8 : decode jdk_43_method_3_code 8 = .ok (.goto 4, 3) := by decide +kernel
theorem d_jdk_43_method_46_code_0 : decode jdk_43_method_46_code 0 = .ok (.iconst 1, 1) := by decide +kernel
theorem d_jdk_43_method_46_code_1 : decode jdk_43_method_46_code 1 = .ok (.newarray .byte, 2) := by decide +kernel
theorem d_jdk_43_method_46_code_3 : decode jdk_43_method_46_code 3 = .ok (.dup, 1) := by decide +kernel
theorem d_jdk_43_method_46_code_4 : decode jdk_43_method_46_code 4 = .ok (.iconst 0, 1) := by decide +kernel
theorem d_jdk_43_method_46_code_5 : decode jdk_43_method_46_code 5 = .ok (.iload_n 0, 1) := by decide +kernel
theorem d_jdk_43_method_46_code_6 : decode jdk_43_method_46_code 6 = .ok (.i2b, 1) := by decide +kernel
theorem d_jdk_43_method_46_code_7 : decode jdk_43_method_46_code 7 = .ok (.bastore, 1) := by decide +kernel
theorem d_jdk_43_method_46_code_8 : decode jdk_43_method_46_code 8 = .ok (.areturn, 1) := by decide +kernel
theorem d_method_2_code_0 : decode method_2_code 0 = .ok (.iload_n 0, 1) := by decide +kernel
theorem d_method_2_code_1 : decode method_2_code 1 = .ok (.ldc 7, 2) := by decide +kernel
theorem d_method_2_code_100 : decode method_2_code 100 = .ok (.getstatic 17, 3) := by decide +kernel
theorem d_method_2_code_103 : decode method_2_code 103 = .ok (.areturn, 1) := by decide +kernel
theorem d_method_2_code_104 : decode method_2_code 104 = .ok (.getstatic 20, 3) := by decide +kernel
theorem d_method_2_code_107 : decode method_2_code 107 = .ok (.areturn, 1) := by decide +kernel
theorem d_method_2_code_108 : decode method_2_code 108 = .ok (.getstatic 23, 3) := by decide +kernel
theorem d_method_2_code_111 : decode method_2_code 111 = .ok (.areturn, 1) := by decide +kernel
theorem d_method_2_code_112 : decode method_2_code 112 = .ok (.getstatic 26, 3) := by decide +kernel
theorem d_method_2_code_115 : decode method_2_code 115 = .ok (.areturn, 1) := by decide +kernel
theorem d_method_2_code_116 : decode method_2_code 116 = .ok (.getstatic 29, 3) := by decide +kernel
theorem d_method_2_code_119 : decode method_2_code 119 = .ok (.areturn, 1) := by decide +kernel
theorem d_method_2_code_120 : decode method_2_code 120 = .ok (.getstatic 32, 3) := by decide +kernel
theorem d_method_2_code_123 : decode method_2_code 123 = .ok (.areturn, 1) := by decide +kernel
theorem d_method_2_code_124 : decode method_2_code 124 = .ok (.getstatic 35, 3) := by decide +kernel
theorem d_method_2_code_127 : decode method_2_code 127 = .ok (.areturn, 1) := by decide +kernel
theorem d_method_2_code_128 : decode method_2_code 128 = .ok (.getstatic 38, 3) := by decide +kernel
theorem d_method_2_code_131 : decode method_2_code 131 = .ok (.areturn, 1) := by decide +kernel
theorem d_method_2_code_132 : decode method_2_code 132 = .ok (.getstatic 41, 3) := by decide +kernel
theorem d_method_2_code_135 : decode method_2_code 135 = .ok (.areturn, 1) := by decide +kernel
theorem d_method_2_code_136 : decode method_2_code 136 = .ok (.getstatic 44, 3) := by decide +kernel
theorem d_method_2_code_139 : decode method_2_code 139 = .ok (.areturn, 1) := by decide +kernel
theorem d_method_2_code_140 : decode method_2_code 140 = .ok (.getstatic 47, 3) := by decide +kernel
theorem d_method_2_code_143 : decode method_2_code 143 = .ok (.areturn, 1) := by decide +kernel
theorem d_method_2_code_144 : decode method_2_code 144 = .ok (.getstatic 50, 3) := by decide +kernel
theorem d_method_2_code_147 : decode method_2_code 147 = .ok (.areturn, 1) := by decide +kernel
theorem d_method_2_code_148 : decode method_2_code 148 = .ok (.getstatic 53, 3) := by decide +kernel
theorem d_method_2_code_151 : decode method_2_code 151 = .ok (.areturn, 1) := by decide +kernel
theorem d_method_2_code_152 : decode method_2_code 152 = .ok (.getstatic 56, 3) := by decide +kernel
theorem d_method_2_code_155 : decode method_2_code 155 = .ok (.areturn, 1) := by decide +kernel
theorem d_method_2_code_156 : decode method_2_code 156 = .ok (.getstatic 59, 3) := by decide +kernel
theorem d_method_2_code_159 : decode method_2_code 159 = .ok (.areturn, 1) := by decide +kernel
theorem d_method_2_code_160 : decode method_2_code 160 = .ok (.getstatic 62, 3) := by decide +kernel
theorem d_method_2_code_163 : decode method_2_code 163 = .ok (.areturn, 1) := by decide +kernel
theorem d_method_2_code_3 : decode method_2_code 3 = .ok (.iand, 1) := by decide +kernel
theorem d_method_2_code_4 : decode method_2_code 4 = .ok (.bipush 18, 2) := by decide +kernel
theorem d_method_2_code_6 : decode method_2_code 6 = .ok (.irem, 1) := by decide +kernel
theorem d_method_2_code_7 : decode method_2_code 7 = .ok (.istore_n 1, 1) := by decide +kernel
theorem d_method_2_code_8 : decode method_2_code 8 = .ok (.iload_n 1, 1) := by decide +kernel
theorem d_method_2_code_9 : decode method_2_code 9 = .ok (.tableswitch 151 0 16 #[83, 87, 91, 95, 99, 103, 107, 111, 115, 119, 123, 127, 131, 135, 139, 143, 147], 83) := by decide +kernel
theorem d_method_2_code_92 : decode method_2_code 92 = .ok (.getstatic 8, 3) := by decide +kernel
theorem d_method_2_code_95 : decode method_2_code 95 = .ok (.areturn, 1) := by decide +kernel
theorem d_method_2_code_96 : decode method_2_code 96 = .ok (.getstatic 14, 3) := by decide +kernel
theorem d_method_2_code_99 : decode method_2_code 99 = .ok (.areturn, 1) := by decide +kernel
theorem d_method_3_code_0 : decode method_3_code 0 = .ok (.iload_n 0, 1) := by decide +kernel
theorem d_method_3_code_1 : decode method_3_code 1 = .ok (.ifCond .ne 14, 3) := by decide +kernel
theorem d_method_3_code_11 : decode method_3_code 11 = .ok (.invokespecial 67, 3) := by decide +kernel
theorem d_method_3_code_14 : decode method_3_code 14 = .ok (.areturn, 1) := by decide +kernel
theorem d_method_3_code_15 : decode method_3_code 15 = .ok (.iload_n 0, 1) := by decide +kernel
theorem d_method_3_code_16 : decode method_3_code 16 = .ok (.iconst 1, 1) := by decide +kernel
theorem d_method_3_code_17 : decode method_3_code 17 = .ok (.if_icmp .ne 18, 3) := by decide +kernel
theorem d_method_3_code_20 : decode method_3_code 20 = .ok (.new 65, 3) := by decide +kernel
theorem d_method_3_code_23 : decode method_3_code 23 = .ok (.dup, 1) := by decide +kernel
theorem d_method_3_code_24 : decode method_3_code 24 = .ok (.iconst 1, 1) := by decide +kernel
theorem d_method_3_code_25 : decode method_3_code 25 = .ok (.newarray .char, 2) := by decide +kernel
theorem d_method_3_code_27 : decode method_3_code 27 = .ok (.dup, 1) := by decide +kernel
theorem d_method_3_code_28 : decode method_3_code 28 = .ok (.iconst 0, 1) := by decide +kernel
theorem d_method_3_code_29 : decode method_3_code 29 = .ok (.iload_n 1, 1) := by decide +kernel
theorem d_method_3_code_30 : decode method_3_code 30 = .ok (.castore, 1) := by decide +kernel
theorem d_method_3_code_31 : decode method_3_code 31 = .ok (.invokespecial 67, 3) := by decide +kernel
theorem d_method_3_code_34 : decode method_3_code 34 = .ok (.areturn, 1) := by decide +kernel
theorem d_method_3_code_35 : decode method_3_code 35 = .ok (.iload_n 0, 1) := by decide +kernel
theorem d_method_3_code_36 : decode method_3_code 36 = .ok (.iconst 2, 1) := by decide +kernel
theorem d_method_3_code_37 : decode method_3_code 37 = .ok (.if_icmp .ne 22, 3) := by decide +kernel
theorem d_method_3_code_4 : decode method_3_code 4 = .ok (.new 65, 3) := by decide +kernel
theorem d_method_3_code_40 : decode method_3_code 40 = .ok (.new 65, 3) := by decide +kernel
theorem d_method_3_code_43 : decode method_3_code 43 = .ok (.dup, 1) := by decide +kernel
theorem d_method_3_code_44 : decode method_3_code 44 = .ok (.iconst 2, 1) := by decide +kernel
theorem d_method_3_code_45 : decode method_3_code 45 = .ok (.newarray .char, 2) := by decide +kernel
theorem d_method_3_code_47 : decode method_3_code 47 = .ok (.dup, 1) := by decide +kernel
theorem d_method_3_code_48 : decode method_3_code 48 = .ok (.iconst 0, 1) := by decide +kernel
theorem d_method_3_code_49 : decode method_3_code 49 = .ok (.iload_n 1, 1) := by decide +kernel
theorem d_method_3_code_50 : decode method_3_code 50 = .ok (.castore, 1) := by decide +kernel
theorem d_method_3_code_51 : decode method_3_code 51 = .ok (.dup, 1) := by decide +kernel
theorem d_method_3_code_52 : decode method_3_code 52 = .ok (.iconst 1, 1) := by decide +kernel
theorem d_method_3_code_53 : decode method_3_code 53 = .ok (.iload_n 2, 1) := by decide +kernel
theorem d_method_3_code_54 : decode method_3_code 54 = .ok (.castore, 1) := by decide +kernel
theorem d_method_3_code_55 : decode method_3_code 55 = .ok (.invokespecial 67, 3) := by decide +kernel
theorem d_method_3_code_58 : decode method_3_code 58 = .ok (.areturn, 1) := by decide +kernel
theorem d_method_3_code_59 : decode method_3_code 59 = .ok (.new 65, 3) := by decide +kernel
theorem d_method_3_code_62 : decode method_3_code 62 = .ok (.dup, 1) := by decide +kernel
theorem d_method_3_code_63 : decode method_3_code 63 = .ok (.iconst 3, 1) := by decide +kernel
theorem d_method_3_code_64 : decode method_3_code 64 = .ok (.newarray .char, 2) := by decide +kernel
theorem d_method_3_code_66 : decode method_3_code 66 = .ok (.dup, 1) := by decide +kernel
theorem d_method_3_code_67 : decode method_3_code 67 = .ok (.iconst 0, 1) := by decide +kernel
theorem d_method_3_code_68 : decode method_3_code 68 = .ok (.iload_n 1, 1) := by decide +kernel
theorem d_method_3_code_69 : decode method_3_code 69 = .ok (.castore, 1) := by decide +kernel
theorem d_method_3_code_7 : decode method_3_code 7 = .ok (.dup, 1) := by decide +kernel
theorem d_method_3_code_70 : decode method_3_code 70 = .ok (.dup, 1) := by decide +kernel
theorem d_method_3_code_71 : decode method_3_code 71 = .ok (.iconst 1, 1) := by decide +kernel
theorem d_method_3_code_72 : decode method_3_code 72 = .ok (.iload_n 2, 1) := by decide +kernel
theorem d_method_3_code_73 : decode method_3_code 73 = .ok (.castore, 1) := by decide +kernel
theorem d_method_3_code_74 : decode method_3_code 74 = .ok (.dup, 1) := by decide +kernel
theorem d_method_3_code_75 : decode method_3_code 75 = .ok (.iconst 2, 1) := by decide +kernel
theorem d_method_3_code_76 : decode method_3_code 76 = .ok (.iload_n 3, 1) := by decide +kernel
theorem d_method_3_code_77 : decode method_3_code 77 = .ok (.castore, 1) := by decide +kernel
theorem d_method_3_code_78 : decode method_3_code 78 = .ok (.invokespecial 67, 3) := by decide +kernel
theorem d_method_3_code_8 : decode method_3_code 8 = .ok (.iconst 0, 1) := by decide +kernel
theorem d_method_3_code_81 : decode method_3_code 81 = .ok (.areturn, 1) := by decide +kernel
theorem d_method_3_code_9 : decode method_3_code 9 = .ok (.newarray .char, 2) := by decide +kernel
theorem d_prog_36_method_1_code_0 : decode prog_36_method_1_code 0 = .ok (.aload_n 0, 1) := by decide +kernel
theorem d_prog_36_method_1_code_1 : decode prog_36_method_1_code 1 = .ok (.aload_n 1, 1) := by decide +kernel
theorem d_prog_36_method_1_code_2 : decode prog_36_method_1_code 2 = .ok (.aload_n 2, 1) := by decide +kernel
theorem d_prog_36_method_1_code_3 : decode prog_36_method_1_code 3 = .ok (.aload_n 3, 1) := by decide +kernel
theorem d_prog_36_method_1_code_4 : decode prog_36_method_1_code 4 = .ok (.iconst 0, 1) := by decide +kernel
theorem d_prog_36_method_1_code_5 : decode prog_36_method_1_code 5 = .ok (.invokespecial 1, 3) := by decide +kernel
theorem d_prog_36_method_1_code_8 : decode prog_36_method_1_code 8 = .ok (.return_, 1) := by decide +kernel
theorem d_prog_36_method_2_code_0 : decode prog_36_method_2_code 0 = .ok (.aload_n 0, 1) := by decide +kernel
theorem d_prog_36_method_2_code_1 : decode prog_36_method_2_code 1 = .ok (.invokespecial 7, 3) := by decide +kernel
theorem d_prog_36_method_2_code_10 : decode prog_36_method_2_code 10 = .ok (.aload_n 2, 1) := by decide +kernel
theorem d_prog_36_method_2_code_11 : decode prog_36_method_2_code 11 = .ok (.putfield 16, 3) := by decide +kernel
theorem d_prog_36_method_2_code_14 : decode prog_36_method_2_code 14 = .ok (.aload_n 0, 1) := by decide +kernel
theorem d_prog_36_method_2_code_15 : decode prog_36_method_2_code 15 = .ok (.aload_n 3, 1) := by decide +kernel
theorem d_prog_36_method_2_code_16 : decode prog_36_method_2_code 16 = .ok (.putfield 20, 3) := by decide +kernel
theorem d_prog_36_method_2_code_19 : decode prog_36_method_2_code 19 = .ok (.aload_n 0, 1) := by decide +kernel
theorem d_prog_36_method_2_code_20 : decode prog_36_method_2_code 20 = .ok (.iload 4, 2) := by decide +kernel
theorem d_prog_36_method_2_code_22 : decode prog_36_method_2_code 22 = .ok (.putfield 24, 3) := by decide +kernel
theorem d_prog_36_method_2_code_25 : decode prog_36_method_2_code 25 = .ok (.return_, 1) := by decide +kernel
theorem d_prog_36_method_2_code_4 : decode prog_36_method_2_code 4 = .ok (.aload_n 0, 1) := by decide +kernel
theorem d_prog_36_method_2_code_5 : decode prog_36_method_2_code 5 = .ok (.aload_n 1, 1) := by decide +kernel
theorem d_prog_36_method_2_code_6 : decode prog_36_method_2_code 6 = .ok (.putfield 12, 3) := by decide +kernel
theorem d_prog_36_method_2_code_9 : decode prog_36_method_2_code 9 = .ok (.aload_n 0, 1) := by decide +kernel
theorem d_prog_36_method_3_code_0 : decode prog_36_method_3_code 0 = .ok (.new 2, 3) := by decide +kernel
theorem d_prog_36_method_3_code_10 : decode prog_36_method_3_code 10 = .ok (.invokespecial 1, 3) := by decide +kernel
theorem d_prog_36_method_3_code_13 : decode prog_36_method_3_code 13 = .ok (.areturn, 1) := by decide +kernel
theorem d_prog_36_method_3_code_3 : decode prog_36_method_3_code 3 = .ok (.dup, 1) := by decide +kernel
theorem d_prog_36_method_3_code_4 : decode prog_36_method_3_code 4 = .ok (.getstatic 28, 3) := by decide +kernel
theorem d_prog_36_method_3_code_7 : decode prog_36_method_3_code 7 = .ok (.aload_n 0, 1) := by decide +kernel
theorem d_prog_36_method_3_code_8 : decode prog_36_method_3_code 8 = .ok (.aload_n 1, 1) := by decide +kernel
theorem d_prog_36_method_3_code_9 : decode prog_36_method_3_code 9 = .ok (.iconst 1, 1) := by decide +kernel
theorem d_prog_36_method_4_code_0 : decode prog_36_method_4_code 0 = .ok (.new 2, 3) := by decide +kernel
theorem d_prog_36_method_4_code_12 : decode prog_36_method_4_code 12 = .ok (.aload_n 1, 1) := by decide +kernel
theorem d_prog_36_method_4_code_13 : decode prog_36_method_4_code 13 = .ok (.aload_n 0, 1) := by decide +kernel
theorem d_prog_36_method_4_code_14 : decode prog_36_method_4_code 14 = .ok (.getfield 24, 3) := by decide +kernel
theorem d_prog_36_method_4_code_17 : decode prog_36_method_4_code 17 = .ok (.invokespecial 1, 3) := by decide +kernel
theorem d_prog_36_method_4_code_20 : decode prog_36_method_4_code 20 = .ok (.areturn, 1) := by decide +kernel
theorem d_prog_36_method_4_code_3 : decode prog_36_method_4_code 3 = .ok (.dup, 1) := by decide +kernel
theorem d_prog_36_method_4_code_4 : decode prog_36_method_4_code 4 = .ok (.aload_n 0, 1) := by decide +kernel
theorem d_prog_36_method_4_code_5 : decode prog_36_method_4_code 5 = .ok (.getfield 12, 3) := by decide +kernel
theorem d_prog_36_method_4_code_8 : decode prog_36_method_4_code 8 = .ok (.aload_n 0, 1) := by decide +kernel
theorem d_prog_36_method_4_code_9 : decode prog_36_method_4_code 9 = .ok (.getfield 16, 3) := by decide +kernel
theorem d_prog_36_method_5_code_0 : decode prog_36_method_5_code 0 = .ok (.aload_n 0, 1) := by decide +kernel
theorem d_prog_36_method_5_code_1 : decode prog_36_method_5_code 1 = .ok (.getfield 12, 3) := by decide +kernel
theorem d_prog_36_method_5_code_4 : decode prog_36_method_5_code 4 = .ok (.areturn, 1) := by decide +kernel
theorem d_prog_36_method_6_code_0 : decode prog_36_method_6_code 0 = .ok (.aload_n 0, 1) := by decide +kernel
theorem d_prog_36_method_6_code_1 : decode prog_36_method_6_code 1 = .ok (.getfield 16, 3) := by decide +kernel
theorem d_prog_36_method_6_code_4 : decode prog_36_method_6_code 4 = .ok (.areturn, 1) := by decide +kernel
theorem d_prog_36_method_7_code_0 : decode prog_36_method_7_code 0 = .ok (.aload_n 0, 1) := by decide +kernel
theorem d_prog_36_method_7_code_1 : decode prog_36_method_7_code 1 = .ok (.getfield 20, 3) := by decide +kernel
theorem d_prog_36_method_7_code_4 : decode prog_36_method_7_code 4 = .ok (.areturn, 1) := by decide +kernel
theorem d_prog_36_method_9_code_0 : decode prog_36_method_9_code 0 = .ok (.aload_n 0, 1) := by decide +kernel
theorem d_prog_36_method_9_code_1 : decode prog_36_method_9_code 1 = .ok (.getfield 24, 3) := by decide +kernel
theorem d_prog_36_method_9_code_4 : decode prog_36_method_9_code 4 = .ok (.ireturn, 1) := by decide +kernel
theorem d_prog_4_method_1_code_0 : decode prog_4_method_1_code 0 = .ok (.aload_n 0, 1) := by decide +kernel
theorem d_prog_4_method_1_code_1 : decode prog_4_method_1_code 1 = .ok (.invokespecial 1, 3) := by decide +kernel
theorem d_prog_4_method_1_code_11 : decode prog_4_method_1_code 11 = .ok (.checkcast 15, 3) := by decide +kernel
theorem d_prog_4_method_1_code_14 : decode prog_4_method_1_code 14 = .ok (.putfield 17, 3) := by decide +kernel
theorem d_prog_4_method_1_code_17 : decode prog_4_method_1_code 17 = .ok (.aload_n 0, 1) := by decide +kernel
theorem d_prog_4_method_1_code_18 : decode prog_4_method_1_code 18 = .ok (.iload_n 2, 1) := by decide +kernel
theorem d_prog_4_method_1_code_19 : decode prog_4_method_1_code 19 = .ok (.putfield 22, 3) := by decide +kernel
theorem d_prog_4_method_1_code_22 : decode prog_4_method_1_code 22 = .ok (.aload_n 0, 1) := by decide +kernel
theorem d_prog_4_method_1_code_23 : decode prog_4_method_1_code 23 = .ok (.iload_n 3, 1) := by decide +kernel
theorem d_prog_4_method_1_code_24 : decode prog_4_method_1_code 24 = .ok (.putfield 26, 3) := by decide +kernel
theorem d_prog_4_method_1_code_27 : decode prog_4_method_1_code 27 = .ok (.return_, 1) := by decide +kernel
theorem d_prog_4_method_1_code_4 : decode prog_4_method_1_code 4 = .ok (.aload_n 0, 1) := by decide +kernel
theorem d_prog_4_method_1_code_5 : decode prog_4_method_1_code 5 = .ok (.aload_n 1, 1) := by decide +kernel
theorem d_prog_4_method_1_code_6 : decode prog_4_method_1_code 6 = .ok (.ldc 7, 2) := by decide +kernel
theorem d_prog_4_method_1_code_8 : decode prog_4_method_1_code 8 = .ok (.invokestatic 9, 3) := by decide +kernel
theorem lat0 : ∀ c ∈ ([] : List Int32), ¬ c < 0 ∧ ¬ (255 : Int32) < c := fun _ q => nomatch q
theorem latc {x : Int32} {cs : List Int32} (q : ¬ x < 0 ∧ ¬ (255 : Int32) < x) (r : ∀ c ∈ cs, ¬ c < 0 ∧ ¬ (255 : Int32) < c) : ∀ c ∈ x :: cs, ¬ c < 0 ∧ ¬ (255 : Int32) < c := fun c z => (List.mem_cons.mp z).elim (fun u => u ▸ q) (r c)
theorem eqv_if {cs ds : List Int32} {v : Option Value} (h : (v = some (.int 1) ∧ cs = ds) ∨ (v = some (.int 0) ∧ ¬ cs = ds)) : v = some (.int (if cs = ds then (1 : Int32) else 0)) := by
  rcases h with ⟨a, b⟩ | ⟨a, b⟩
  · rw [a, if_pos b]
  · rw [a, if_neg b]
theorem sw_words {a0 : Array Value} {Z : State} (hw : ∀ d ∈ tables_1, d.before a0 Z = true) : ∀ d ∈ StrChars.Road.words, d.before a0 Z = true := fun d hd => hw d ((by decide +kernel : ∀ d ∈ StrChars.Road.words, d ∈ tables_1) d hd)
def EL : List (String × Nat) := [("com/example/stubwright/stubwright/SourcePosition", 7), ("java/lang/String", 7)]
theorem hEL_ {Z : State} {a0 : Array Value} (hw : ∀ d ∈ tables_1, d.before a0 Z = true) : EW Z a0 EL := (EW.cons (wd_56 hw) (by decide) (EW.cons (wd_122 hw) (by decide) EW.nil))
theorem hwS_ {Z : State} {a0 : Array Value} (hw : ∀ d ∈ tables_1, d.before a0 Z = true) : ∀ d ∈ Bundle.stringAtoms, d.before a0 Z = true := fun d hd => hw d ((by decide +kernel : ∀ d ∈ Bundle.stringAtoms, d ∈ tables_1) d hd)
def St (Z : State) (zc : Int32) (kd0 : Addr) (kd1 : Addr) (kd2 : Addr) (kd3 : Addr) (kd4 : Addr) (kd5 : Addr) (kd6 : Addr) (kd7 : Addr) (kd8 : Addr) (kd9 : Addr) (kd10 : Addr) (kd11 : Addr) (kd12 : Addr) (kd13 : Addr) (kd14 : Addr) (kd15 : Addr) (kd16 : Addr) (kd17 : Addr) : Prop := Sta Z Z.heap "java/lang/String" "COMPACT_STRINGS" "Z" (.int zc) ∧ ¬ zc = 0 ∧ Sta Z Z.heap "com/example/stubwright/stubwright/idl/Token$Kind" "IDENTIFIER" "Lcom/example/stubwright/stubwright/idl/Token$Kind;" (.ref kd0) ∧ Sta Z Z.heap "com/example/stubwright/stubwright/idl/Token$Kind" "KEYWORD" "Lcom/example/stubwright/stubwright/idl/Token$Kind;" (.ref kd1) ∧ Sta Z Z.heap "com/example/stubwright/stubwright/idl/Token$Kind" "INTEGER" "Lcom/example/stubwright/stubwright/idl/Token$Kind;" (.ref kd2) ∧ Sta Z Z.heap "com/example/stubwright/stubwright/idl/Token$Kind" "FLOATING_POINT" "Lcom/example/stubwright/stubwright/idl/Token$Kind;" (.ref kd3) ∧ Sta Z Z.heap "com/example/stubwright/stubwright/idl/Token$Kind" "FIXED_POINT" "Lcom/example/stubwright/stubwright/idl/Token$Kind;" (.ref kd4) ∧ Sta Z Z.heap "com/example/stubwright/stubwright/idl/Token$Kind" "CHARACTER" "Lcom/example/stubwright/stubwright/idl/Token$Kind;" (.ref kd5) ∧ Sta Z Z.heap "com/example/stubwright/stubwright/idl/Token$Kind" "WIDE_CHARACTER" "Lcom/example/stubwright/stubwright/idl/Token$Kind;" (.ref kd6) ∧ Sta Z Z.heap "com/example/stubwright/stubwright/idl/Token$Kind" "STRING" "Lcom/example/stubwright/stubwright/idl/Token$Kind;" (.ref kd7) ∧ Sta Z Z.heap "com/example/stubwright/stubwright/idl/Token$Kind" "WIDE_STRING" "Lcom/example/stubwright/stubwright/idl/Token$Kind;" (.ref kd8) ∧ Sta Z Z.heap "com/example/stubwright/stubwright/idl/Token$Kind" "PUNCTUATOR" "Lcom/example/stubwright/stubwright/idl/Token$Kind;" (.ref kd9) ∧ Sta Z Z.heap "com/example/stubwright/stubwright/idl/Token$Kind" "OTHER" "Lcom/example/stubwright/stubwright/idl/Token$Kind;" (.ref kd10) ∧ Sta Z Z.heap "com/example/stubwright/stubwright/idl/Token$Kind" "DIRECTIVE" "Lcom/example/stubwright/stubwright/idl/Token$Kind;" (.ref kd11) ∧ Sta Z Z.heap "com/example/stubwright/stubwright/idl/Token$Kind" "DIRECTIVE_END" "Lcom/example/stubwright/stubwright/idl/Token$Kind;" (.ref kd12) ∧ Sta Z Z.heap "com/example/stubwright/stubwright/idl/Token$Kind" "HEADER_NAME" "Lcom/example/stubwright/stubwright/idl/Token$Kind;" (.ref kd13) ∧ Sta Z Z.heap "com/example/stubwright/stubwright/idl/Token$Kind" "INCLUDE_START" "Lcom/example/stubwright/stubwright/idl/Token$Kind;" (.ref kd14) ∧ Sta Z Z.heap "com/example/stubwright/stubwright/idl/Token$Kind" "INCLUDE_END" "Lcom/example/stubwright/stubwright/idl/Token$Kind;" (.ref kd15) ∧ Sta Z Z.heap "com/example/stubwright/stubwright/idl/Token$Kind" "PRAGMA" "Lcom/example/stubwright/stubwright/idl/Token$Kind;" (.ref kd16) ∧ Sta Z Z.heap "com/example/stubwright/stubwright/idl/Token$Kind" "END" "Lcom/example/stubwright/stubwright/idl/Token$Kind;" (.ref kd17)
theorem nar255 (x : Int32) : nar .char (x &&& (255 : Int32)) = x &&& (255 : Int32) := i2c_mask x
theorem lat255 (x : Int32) : ¬ (x &&& (255 : Int32)) < 0 ∧ ¬ (255 : Int32) < x &&& (255 : Int32) := by
  have h := c_mask x 255 8 (by decide) (by decide)
  have e1 : (255 : Int32).toInt = 255 := by decide
  have e2 : (0 : Int32).toInt = 0 := by decide
  rw [Int32.lt_iff_toInt_lt, Int32.lt_iff_toInt_lt, h]
  omega
theorem latI {x : Int32} (h : ¬ x < 0 ∧ ¬ (255 : Int32) < x) : 0 ≤ x.toInt ∧ x.toInt ≤ 255 := by
  have e1 : (255 : Int32).toInt = 255 := by decide
  have e2 : (0 : Int32).toInt = 0 := by decide
  rw [Int32.lt_iff_toInt_lt, Int32.lt_iff_toInt_lt] at h
  omega
theorem nar_lat {x : Int32} (h : ¬ x < 0 ∧ ¬ (255 : Int32) < x) : nar .char x = x := by
  have q := latI h
  have r := c_i2c x
  have s := rng32 x
  apply Int32.toInt_inj.mp
  show x.toUInt32.toUInt16.toUInt32.toInt32.toInt = x.toInt
  omega
theorem i8_inj {x y : Int32} (hx : ¬ x < 0 ∧ ¬ (255 : Int32) < x) (hy : ¬ y < 0 ∧ ¬ (255 : Int32) < y) (e : x.toInt8.toInt32 = y.toInt8.toInt32) : x = y := by
  have a := latI hx
  have b := latI hy
  have r := c_i2b x
  have s := c_i2b y
  rw [e] at r
  apply Int32.toInt_inj.mp
  omega
theorem bytes_getD (cs : List Int32) (i : Nat) : ((cs.map fun c => c.toInt8.toInt32).map Value.int).getD i (.int (0 : Int32)) = .int (cs.getD i 0).toInt8.toInt32 := by
  rw [List.map_map, List.getD_eq_getElem?_getD, List.getD_eq_getElem?_getD, List.getElem?_map]
  cases cs[i]? <;> rfl
theorem ofNat_toInt {k : Nat} (h : k ≤ 100000) : (Int32.ofNat k).toInt = k := Int32.toInt_ofNat_small (by omega)
theorem lt_ofNat {k i : Nat} {j : Int32} (h : k ≤ 100000) (e : j.toInt = i) (q : i < k) : ¬ j < 0 ∧ j < Int32.ofNat k := by
  rw [Int32.lt_iff_toInt_lt, Int32.lt_iff_toInt_lt, ofNat_toInt h, e]
  have e2 : (0 : Int32).toInt = 0 := by decide
  omega
theorem sub_lt0 {k n : Nat} {j : Int32} (h : k ≤ 100000) (e : j.toInt = n) (q : n ≤ 100000) : (Int32.ofNat k - j) < 0 ↔ k < n := by
  have a := c_isub (Int32.ofNat k) j
  have b := rng32 (Int32.ofNat k - j)
  rw [ofNat_toInt h, e] at a
  have e2 : (0 : Int32).toInt = 0 := by decide
  rw [Int32.lt_iff_toInt_lt, e2]
  omega
theorem b01_iff {P Q : Prop} [Decidable P] [Decidable Q] (h : P ↔ Q) : (if P then (1 : Int32) else 0) = (if Q then (1 : Int32) else 0) := by
  by_cases q : P
  · rw [if_pos q, if_pos (h.mp q)]
  · rw [if_neg q, if_neg (fun z => q (h.mpr z))]
theorem rem18 (x : Int32) : 0 ≤ ((x &&& (2147483647 : Int32)) % (18 : Int32)).toInt ∧ ((x &&& (2147483647 : Int32)) % (18 : Int32)).toInt < 18 := by
  have h := c_mask x 2147483647 31 (by decide) (by decide)
  have r := (c_irem (x &&& (2147483647 : Int32)) 18 18 (by decide)).1 (by omega)
  omega
theorem i8_i8 (x : Int32) : x.toInt8.toInt32.toInt8.toInt32 = x.toInt8.toInt32 := by simp
theorem latL (x : Int64) : ¬ (x &&& (255 : Int64)).toInt32 < 0 ∧ ¬ (255 : Int32) < (x &&& (255 : Int64)).toInt32 := by
  have h := c_maskL x 255 8 (by decide) (by decide)
  have r := c_l2i (x &&& (255 : Int64))
  have s := rng32 (x &&& (255 : Int64)).toInt32
  have e1 : (255 : Int32).toInt = 255 := by decide
  have e2 : (0 : Int32).toInt = 0 := by decide
  rw [Int32.lt_iff_toInt_lt, Int32.lt_iff_toInt_lt]
  omega
theorem narL (x : Int64) : nar .char (x &&& (255 : Int64)).toInt32 = (x &&& (255 : Int64)).toInt32 := nar_lat (latL x)

def mkL (n c0 c1 c2 : Int32) : List Int32 := if n = 0 then [] else if n = 1 then [c0] else if n = 2 then [c0, c1] else [c0, c1, c2]
theorem range18 {z : Int32} (hz : 0 ≤ z.toInt ∧ z.toInt < 18) : z = (0 : Int32) ∨ z = (1 : Int32) ∨ z = (2 : Int32) ∨ z = (3 : Int32) ∨ z = (4 : Int32) ∨ z = (5 : Int32) ∨ z = (6 : Int32) ∨ z = (7 : Int32) ∨ z = (8 : Int32) ∨ z = (9 : Int32) ∨ z = (10 : Int32) ∨ z = (11 : Int32) ∨ z = (12 : Int32) ∨ z = (13 : Int32) ∨ z = (14 : Int32) ∨ z = (15 : Int32) ∨ z = (16 : Int32) ∨ z = (17 : Int32) := by
  have e : ∀ k : Int32, z.toInt = k.toInt → z = k := fun k q => Int32.toInt_inj.mp q
  have q : z.toInt = 0 ∨ z.toInt = 1 ∨ z.toInt = 2 ∨ z.toInt = 3 ∨ z.toInt = 4 ∨ z.toInt = 5 ∨ z.toInt = 6 ∨ z.toInt = 7 ∨ z.toInt = 8 ∨ z.toInt = 9 ∨ z.toInt = 10 ∨ z.toInt = 11 ∨ z.toInt = 12 ∨ z.toInt = 13 ∨ z.toInt = 14 ∨ z.toInt = 15 ∨ z.toInt = 16 ∨ z.toInt = 17 := by omega
  rcases q with q | q | q | q | q | q | q | q | q | q | q | q | q | q | q | q | q | q
  · exact Or.inl (e 0 q)
  · exact Or.inr (Or.inl (e 1 q))
  · exact Or.inr (Or.inr (Or.inl (e 2 q)))
  · exact Or.inr (Or.inr (Or.inr (Or.inl (e 3 q))))
  · exact Or.inr (Or.inr (Or.inr (Or.inr (Or.inl (e 4 q)))))
  · exact Or.inr (Or.inr (Or.inr (Or.inr (Or.inr (Or.inl (e 5 q))))))
  · exact Or.inr (Or.inr (Or.inr (Or.inr (Or.inr (Or.inr (Or.inl (e 6 q)))))))
  · exact Or.inr (Or.inr (Or.inr (Or.inr (Or.inr (Or.inr (Or.inr (Or.inl (e 7 q))))))))
  · exact Or.inr (Or.inr (Or.inr (Or.inr (Or.inr (Or.inr (Or.inr (Or.inr (Or.inl (e 8 q)))))))))
  · exact Or.inr (Or.inr (Or.inr (Or.inr (Or.inr (Or.inr (Or.inr (Or.inr (Or.inr (Or.inl (e 9 q))))))))))
  · exact Or.inr (Or.inr (Or.inr (Or.inr (Or.inr (Or.inr (Or.inr (Or.inr (Or.inr (Or.inr (Or.inl (e 10 q)))))))))))
  · exact Or.inr (Or.inr (Or.inr (Or.inr (Or.inr (Or.inr (Or.inr (Or.inr (Or.inr (Or.inr (Or.inr (Or.inl (e 11 q))))))))))))
  · exact Or.inr (Or.inr (Or.inr (Or.inr (Or.inr (Or.inr (Or.inr (Or.inr (Or.inr (Or.inr (Or.inr (Or.inr (Or.inl (e 12 q)))))))))))))
  · exact Or.inr (Or.inr (Or.inr (Or.inr (Or.inr (Or.inr (Or.inr (Or.inr (Or.inr (Or.inr (Or.inr (Or.inr (Or.inr (Or.inl (e 13 q))))))))))))))
  · exact Or.inr (Or.inr (Or.inr (Or.inr (Or.inr (Or.inr (Or.inr (Or.inr (Or.inr (Or.inr (Or.inr (Or.inr (Or.inr (Or.inr (Or.inl (e 14 q)))))))))))))))
  · exact Or.inr (Or.inr (Or.inr (Or.inr (Or.inr (Or.inr (Or.inr (Or.inr (Or.inr (Or.inr (Or.inr (Or.inr (Or.inr (Or.inr (Or.inr (Or.inl (e 15 q))))))))))))))))
  · exact Or.inr (Or.inr (Or.inr (Or.inr (Or.inr (Or.inr (Or.inr (Or.inr (Or.inr (Or.inr (Or.inr (Or.inr (Or.inr (Or.inr (Or.inr (Or.inr (Or.inl (e 16 q)))))))))))))))))
  · exact Or.inr (Or.inr (Or.inr (Or.inr (Or.inr (Or.inr (Or.inr (Or.inr (Or.inr (Or.inr (Or.inr (Or.inr (Or.inr (Or.inr (Or.inr (Or.inr (Or.inr (e 17 q)))))))))))))))))
theorem nar01 {x : Int32} (h : x = 0 ∨ x = 1) : narrow .boolean (.int x) = .int x := by rcases h with rfl | rfl <;> rfl
theorem fits01 {x : Int32} (h : x = 0 ∨ x = 1) : fits .boolean (.int x) = true := by rcases h with rfl | rfl <;> rfl
--@C init4e
def Q_init4e (Z : State) (zc : Int32) (kd0 : Addr) (kd1 : Addr) (kd2 : Addr) (kd3 : Addr) (kd4 : Addr) (kd5 : Addr) (kd6 : Addr) (kd7 : Addr) (kd8 : Addr) (kd9 : Addr) (kd10 : Addr) (kd11 : Addr) (kd12 : Addr) (kd13 : Addr) (kd14 : Addr) (kd15 : Addr) (kd16 : Addr) (kd17 : Addr) (a1 : Addr) (a2 : Addr) (h0 : Heap) (n0 : Nat) (v : Option Value) (h : Heap) (L : List Loc) : Prop := v = none ∧ Fr n0 L ∧ Keep h0 h [a1] ∧ Str Z h.size h a1 ([] : List Int32)
set_option maxRecDepth 65536 in
set_option maxHeartbeats 40000000 in
theorem rm_init4e (l : Launch) (Z : State) (a0 : Array Value) (hw : ∀ d ∈ tables_1, d.before a0 Z = true) (zc : Int32) (kd0 : Addr) (kd1 : Addr) (kd2 : Addr) (kd3 : Addr) (kd4 : Addr) (kd5 : Addr) (kd6 : Addr) (kd7 : Addr) (kd8 : Addr) (kd9 : Addr) (kd10 : Addr) (kd11 : Addr) (kd12 : Addr) (kd13 : Addr) (kd14 : Addr) (kd15 : Addr) (kd16 : Addr) (kd17 : Addr) (a1 : Addr) (a2 : Addr) (h0 : Heap) (n0 : Nat) (Z0 : n0 ≤ h0.size) (E_a1 : Exa Z h0 a1 "java/lang/String") (F_a1v : Fld Z h0 a1 "java/lang/String" "value" "[B" .null) (F_a1c : Fld Z h0 a1 "java/lang/String" "coder" "B" (.int (0 : Int32))) (g_a1 : n0 ≤ a1) (hSt : St Z zc kd0 kd1 kd2 kd3 kd4 kd5 kd6 kd7 kd8 kd9 kd10 kd11 kd12 kd13 kd14 kd15 kd16 kd17) (hO : Old Z n0 h0) :
    CW l Z EL ({ cls := "java/lang/String", name := "<init>", desc := "([CIILjava/lang/Void;)V" } : Jvm.MethodName) [(Jvm.Cond.code ({ cls := "java/lang/String", name := "<init>", desc := "([CIILjava/lang/Void;)V" } : Jvm.MethodName) jdk_42_method_149_code (6 : Nat) (Option.none : Option Jvm.ClassFile.FieldType))] ({ frames := 1, cells := 4, slots := 8, locals := 12 } : Room) #[(.ref a1), (.ref a2), (.int (0 : Int32)), (.int (0 : Int32)), .null] h0 (Q_init4e Z zc kd0 kd1 kd2 kd3 kd4 kd5 kd6 kd7 kd8 kd9 kd10 kd11 kd12 kd13 kd14 kd15 kd16 kd17 a1 a2 h0 n0) := by
  refine CW.of (L0 := #[.val (.ref a1), .val (.ref a2), .val (.int (0 : Int32)), .val (.int (0 : Int32)), .val .null, .unset]) (plainFor_of_name pn_0) (fun m => by first | (simp [entryFrame, mkF, argsToLocals, Value.category]; done) | rfl) ?_
  intro p e s m below meth c s₁ hx hby hml hret hlk hZ hown hnm X0 e0 hS0 hk0 CV0 hh0
  have hEL := hEL_ (a0 := a0) hw
  have hwS := hwS_ hw
  have N0 := Fr.nil n0
  have KP0 := Keep.refl h0 [a1]
  have hSt_ := hSt
  obtain ⟨S_cs, n_cs, S_kd0, S_kd1, S_kd2, S_kd3, S_kd4, S_kd5, S_kd6, S_kd7, S_kd8, S_kd9, S_kd10, S_kd11, S_kd12, S_kd13, S_kd14, S_kd15, S_kd16, S_kd17⟩ := hSt_
  have Sf_a1 : Safe Z EL s.vm h0 a1 := own_safe_null hZ.alike E_a1 F_a1v (wd_6 hw)
  show Go p e below _ (s₁.setTop (mkF m 0 #[.val (.ref a1), .val (.ref a2), .val (.int (0 : Int32)), .val (.int (0 : Int32)), .val .null, .unset] []))
  refine Go.step (fun _ k => XS.aloadN X0.here hx rfl (hb hby d_jdk_42_method_149_code_0) rfl rfl k) ?_
  show Go p e below _ (s₁.setTop (mkF m 1 #[.val (.ref a1), .val (.ref a2), .val (.int (0 : Int32)), .val (.int (0 : Int32)), .val .null, .unset] [(.ref a1)]))
  obtain ⟨T_1, X_1, e_1, st_1⟩ := initO X0 hx hZ hown (wd_16 hw) (wd_17 hw) (wd_18 hw) e0 (g := (mkF m 1 #[.val (.ref a1), .val (.ref a2), .val (.int (0 : Int32)), .val (.int (0 : Int32)), .val .null, .unset] [(.ref a1)])) rfl (by rw [hml]; rfl) rfl (hb hby d_jdk_42_method_149_code_1) (by decide) (W := 0) (by show 2 * 0 + _ ≤ _; exact Nat.le_of_eq rfl) (by decide)
  refine Go.step st_1 ?_
  show Go p e below _ (T_1.setTop (mkF m 4 #[.val (.ref a1), .val (.ref a2), .val (.int (0 : Int32)), .val (.int (0 : Int32)), .val .null, .unset] []))
  refine Go.step (fun _ k => XS.iloadN X_1.here hx rfl (hb hby d_jdk_42_method_149_code_4) rfl  k) ?_
  show Go p e below _ (T_1.setTop (mkF m 5 #[.val (.ref a1), .val (.ref a2), .val (.int (0 : Int32)), .val (.int (0 : Int32)), .val .null, .unset] [(.int (0 : Int32))]))
  refine Go.step (fun _ k => XS.ifNo X_1.here hx rfl (hb hby d_jdk_42_method_149_code_5) rfl ((if0 _ _).trans (teq ((by decide) : (0 : Int32) = (0 : Int32))).2) k) ?_
  show Go p e below _ (T_1.setTop (mkF m 8 #[.val (.ref a1), .val (.ref a2), .val (.int (0 : Int32)), .val (.int (0 : Int32)), .val .null, .unset] []))
  refine Go.step (fun _ k => XS.aloadN X_1.here hx rfl (hb hby d_jdk_42_method_149_code_8) rfl rfl k) ?_
  show Go p e below _ (T_1.setTop (mkF m 9 #[.val (.ref a1), .val (.ref a2), .val (.int (0 : Int32)), .val (.int (0 : Int32)), .val .null, .unset] [(.ref a1)]))
  obtain ⟨a_2, T_2, h_2, k1_2, t_2, kb_2, X_2, e_2, E_2, hS_2, hk_2, hZ_2, hown_2, Ex_2, Fc_2, Fv_2, Av_2, lta_2, ltb_2, C_2, Lt_2, -, st_2⟩ := ldcCH X_1 hx hZ hown (wd_122 hw) hwS e_1 hS0 hk0 hEL (by decide) CV0 (vs := []) (z := (0 : Int32)) ⟨by decide, by decide⟩ (by decide) (by decide) (g := (mkF m 9 #[.val (.ref a1), .val (.ref a2), .val (.int (0 : Int32)), .val (.int (0 : Int32)), .val .null, .unset] [(.ref a1)])) rfl (hb hby d_jdk_42_method_149_code_9) (n := 0) (by decide) (by decide) (by decide) (by decide)
  refine Go.step st_2 ?_
  have CR_2 := CHr.trans (CHr.refl CV0) C_2
  have le_2 : h0.size ≤ h_2.size := E_2.1
  have KP_2 := KP0.ext E_2
  have O_2 := hO.ext E_2
  have Sx_2 : Str Z h_2.size h_2 a_2 ([] : List Int32) := ⟨t_2, kb_2, lta_2, ltb_2, Ex_2, Fv_2, Fc_2, Av_2, by decide, by decide⟩
  show Go p e below _ (T_2.setTop (mkF m 11 #[.val (.ref a1), .val (.ref a2), .val (.int (0 : Int32)), .val (.int (0 : Int32)), .val .null, .unset] [(.ref a_2), (.ref a1)]))
  have cp3 := Sx_2
  obtain ⟨t4, kb4, -, -, Ex4, Fv4, Fc4, Av4, hl4, hn4⟩ := cp3
  obtain ⟨T_5, X_5, e_5, st_5⟩ := getF X_2 hx hZ_2 hown_2 (host := "") (Or.inl (wd_33 hw)) Via.refl e_2 Fv4 (g := (mkF m 11 #[.val (.ref a1), .val (.ref a2), .val (.int (0 : Int32)), .val (.int (0 : Int32)), .val .null, .unset] [(.ref a_2), (.ref a1)])) rfl rfl (hb hby d_jdk_42_method_149_code_11)
  refine Go.step st_5 ?_
  show Go p e below _ (T_5.setTop (mkF m 14 #[.val (.ref a1), .val (.ref a2), .val (.int (0 : Int32)), .val (.int (0 : Int32)), .val .null, .unset] [(.ref t4), (.ref a1)]))
  have f6 : Exa Z h_2 a1 "java/lang/String" := (E_a1.ext E_2)
  have f7 : Fld Z h_2 a1 "java/lang/String" "value" "[B" .null := (F_a1v.ext E_2)
  obtain ⟨T_8, h_8, X_8, e_8, W_8, st_8⟩ := putF X_5 hx hZ_2 hown_2 (host := "") (Or.inl (wd_33 hw)) Via.refl e_5 f7 f6 (Or.inr ⟨(wd_34 hw), rfl, hnm⟩) (wd_6 hw) (ty := (.array .byte)) pf_0 rfl rfl (g := (mkF m 14 #[.val (.ref a1), .val (.ref a2), .val (.int (0 : Int32)), .val (.int (0 : Int32)), .val .null, .unset] [(.ref t4), (.ref a1)])) rfl rfl (hb hby d_jdk_42_method_149_code_14)
  refine Go.step st_8 ?_
  have N_8 := Fr.snoc X_8 N0 g_a1
  have C_8 := CHr.wr W_8 (CHr.safe C_2 E_a1.lt Sf_a1) C_2.1
  have CR_8 := CHr.trans CR_2 C_8
  have le_8 : h_2.size ≤ h_8.size := Nat.le_of_eq W_8.size.symm
  have KP_8 := KP_2.wr W_8 (Or.inl (List.mem_of_getElem? (i := 0) rfl))
  have O_8 := O_2.wr W_8 g_a1
  have F_8 : Fld Z h_8 a1 "java/lang/String" "value" "[B" (.ref t4) := f7.same W_8
  show Go p e below _ (T_8.setTop (mkF m 17 #[.val (.ref a1), .val (.ref a2), .val (.int (0 : Int32)), .val (.int (0 : Int32)), .val .null, .unset] []))
  refine Go.step (fun _ k => XS.aloadN X_8.here hx rfl (hb hby d_jdk_42_method_149_code_17) rfl rfl k) ?_
  show Go p e below _ (T_8.setTop (mkF m 18 #[.val (.ref a1), .val (.ref a2), .val (.int (0 : Int32)), .val (.int (0 : Int32)), .val .null, .unset] [(.ref a1)]))
  obtain ⟨a_9, T_9, h_9, k1_9, t_9, kb_9, X_9, e_9, E_9, hS_9, hk_9, hZ_9, hown_9, Ex_9, Fc_9, Fv_9, Av_9, lta_9, ltb_9, C_9, Lt_9, -, st_9⟩ := ldcCH X_8 hx hZ_2 hown_2 (wd_122 hw) hwS e_8 hS_2 (Nat.le_trans hk_2 le_8) hEL (by decide) C_8.1 (vs := []) (z := (0 : Int32)) ⟨by decide, by decide⟩ (by decide) (by decide) (g := (mkF m 18 #[.val (.ref a1), .val (.ref a2), .val (.int (0 : Int32)), .val (.int (0 : Int32)), .val .null, .unset] [(.ref a1)])) rfl (hb hby d_jdk_42_method_149_code_18) (n := 0) (by decide) (by decide) (by decide) (by decide)
  refine Go.step st_9 ?_
  have CR_9 := CHr.trans CR_8 C_9
  have le_9 : h_8.size ≤ h_9.size := E_9.1
  have KP_9 := KP_8.ext E_9
  have O_9 := O_8.ext E_9
  have Sx_9 : Str Z h_9.size h_9 a_9 ([] : List Int32) := ⟨t_9, kb_9, lta_9, ltb_9, Ex_9, Fv_9, Fc_9, Av_9, by decide, by decide⟩
  show Go p e below _ (T_9.setTop (mkF m 20 #[.val (.ref a1), .val (.ref a2), .val (.int (0 : Int32)), .val (.int (0 : Int32)), .val .null, .unset] [(.ref a_9), (.ref a1)]))
  have cp10 := Sx_9
  obtain ⟨t11, kb11, -, -, Ex11, Fv11, Fc11, Av11, hl11, hn11⟩ := cp10
  obtain ⟨T_12, X_12, e_12, st_12⟩ := getF X_9 hx hZ_9 hown_9 (host := "") (Or.inl (wd_31 hw)) Via.refl e_9 Fc11 (g := (mkF m 20 #[.val (.ref a1), .val (.ref a2), .val (.int (0 : Int32)), .val (.int (0 : Int32)), .val .null, .unset] [(.ref a_9), (.ref a1)])) rfl rfl (hb hby d_jdk_42_method_149_code_20)
  refine Go.step st_12 ?_
  show Go p e below _ (T_12.setTop (mkF m 23 #[.val (.ref a1), .val (.ref a2), .val (.int (0 : Int32)), .val (.int (0 : Int32)), .val .null, .unset] [(.int (0 : Int32)), (.ref a1)]))
  have f13 : Exa Z h_9 a1 "java/lang/String" := ((f6.wr W_8).ext E_9)
  have f14 : Fld Z h_9 a1 "java/lang/String" "coder" "B" (.int (0 : Int32)) := (((F_a1c.ext E_2).other W_8 (Or.inr (sn_0 hw))).ext E_9)
  obtain ⟨T_15, h_15, X_15, e_15, W_15, st_15⟩ := putFN X_12 hx hZ_9 hown_9 (wd_31 hw) Via.refl e_12 f14 f13 (Or.inr ⟨(wd_32 hw), rfl, hnm⟩) (wd_6 hw) (ty := .byte) (v' := (.int (0 : Int32))) pf_1 rfl (by decide) (g := (mkF m 23 #[.val (.ref a1), .val (.ref a2), .val (.int (0 : Int32)), .val (.int (0 : Int32)), .val .null, .unset] [(.int (0 : Int32)), (.ref a1)])) rfl rfl (hb hby d_jdk_42_method_149_code_23)
  refine Go.step st_15 ?_
  have N_15 := Fr.snoc X_15 N_8 g_a1
  have C_15 := CHr.wr W_15 (CHr.safe (CHr.trans (CHr.trans C_2 C_8) C_9) E_a1.lt Sf_a1) C_9.1
  have CR_15 := CHr.trans CR_9 C_15
  have le_15 : h_9.size ≤ h_15.size := Nat.le_of_eq W_15.size.symm
  have KP_15 := KP_9.wr W_15 (Or.inl (List.mem_of_getElem? (i := 0) rfl))
  have O_15 := O_9.wr W_15 g_a1
  have F_15 : Fld Z h_15 a1 "java/lang/String" "coder" "B" (.int (0 : Int32)) := f14.same W_15
  show Go p e below _ (T_15.setTop (mkF m 26 #[.val (.ref a1), .val (.ref a2), .val (.int (0 : Int32)), .val (.int (0 : Int32)), .val .null, .unset] []))
  have f16 : Exa Z h_15 a1 "java/lang/String" := (f13.wr W_15)
  have f17 : Fld Z h_15 a1 "java/lang/String" "value" "[B" (.ref t4) := ((F_8.ext E_9).other W_15 (Or.inr (sn_1 hw)))
  have f18 : Arv Z h_15 t4 kb4 .byte (0 : Int32) [] (.int (0 : Int32)) := (((Av4.other W_8 (Ne.symm (Exa.neArv (E_a1.ext E_2) Av4 (wd_6 hw)))).ext E_9).other W_15 (Ne.symm (Exa.neArv (E_a1.ext E_2) Av4 (wd_6 hw))))
  have Sx19 : Str Z h_15.size h_15 a1 ([] : List Int32) := ⟨t4, kb4, f16.lt, f18.lt, f16, f17, F_15, f18, by decide, Nat.le_of_ble_eq_true rfl⟩
  exact Go.ret0W X_15 e_15 hS_9 (Nat.le_trans hk_9 le_15) hZ_9 hEL hh0 CR_15 hx hlk hret (hb hby d_jdk_42_method_149_code_26) (by decide) (by decide) (by rw [e_15]; exact ⟨rfl, N_15, KP_15, Sx19⟩)
--@E
--@C init1e
def Q_init1e (Z : State) (zc : Int32) (kd0 : Addr) (kd1 : Addr) (kd2 : Addr) (kd3 : Addr) (kd4 : Addr) (kd5 : Addr) (kd6 : Addr) (kd7 : Addr) (kd8 : Addr) (kd9 : Addr) (kd10 : Addr) (kd11 : Addr) (kd12 : Addr) (kd13 : Addr) (kd14 : Addr) (kd15 : Addr) (kd16 : Addr) (kd17 : Addr) (a1 : Addr) (a2 : Addr) (k2 : ClassId) (h0 : Heap) (n0 : Nat) (v : Option Value) (h : Heap) (L : List Loc) : Prop := v = none ∧ Fr n0 L ∧ Keep h0 h [a1] ∧ Str Z h.size h a1 ([] : List Int32)
set_option maxRecDepth 65536 in
set_option maxHeartbeats 40000000 in
theorem rm_init1e (l : Launch) (Z : State) (a0 : Array Value) (hw : ∀ d ∈ tables_1, d.before a0 Z = true) (zc : Int32) (kd0 : Addr) (kd1 : Addr) (kd2 : Addr) (kd3 : Addr) (kd4 : Addr) (kd5 : Addr) (kd6 : Addr) (kd7 : Addr) (kd8 : Addr) (kd9 : Addr) (kd10 : Addr) (kd11 : Addr) (kd12 : Addr) (kd13 : Addr) (kd14 : Addr) (kd15 : Addr) (kd16 : Addr) (kd17 : Addr) (a1 : Addr) (a2 : Addr) (k2 : ClassId) (h0 : Heap) (n0 : Nat) (Z0 : n0 ≤ h0.size) (E_a1 : Exa Z h0 a1 "java/lang/String") (F_a1v : Fld Z h0 a1 "java/lang/String" "value" "[B" .null) (F_a1c : Fld Z h0 a1 "java/lang/String" "coder" "B" (.int (0 : Int32))) (g_a1 : n0 ≤ a1) (A_a2 : Arv Z h0 a2 k2 .char (0 : Int32) [] (.int (0 : Int32))) (hSt : St Z zc kd0 kd1 kd2 kd3 kd4 kd5 kd6 kd7 kd8 kd9 kd10 kd11 kd12 kd13 kd14 kd15 kd16 kd17) (hO : Old Z n0 h0) :
    CW l Z EL ({ cls := "java/lang/String", name := "<init>", desc := "([C)V" } : Jvm.MethodName) [(Jvm.Cond.code ({ cls := "java/lang/String", name := "<init>", desc := "([C)V" } : Jvm.MethodName) jdk_42_method_3_code (2 : Nat) (Option.none : Option Jvm.ClassFile.FieldType))] ({ frames := 2, cells := 4, slots := 8, locals := 29 } : Room) #[(.ref a1), (.ref a2)] h0 (Q_init1e Z zc kd0 kd1 kd2 kd3 kd4 kd5 kd6 kd7 kd8 kd9 kd10 kd11 kd12 kd13 kd14 kd15 kd16 kd17 a1 a2 k2 h0 n0) := by
  refine CW.of (L0 := #[.val (.ref a1), .val (.ref a2)]) (plainFor_of_name pn_0) (fun m => by first | (simp [entryFrame, mkF, argsToLocals, Value.category]; done) | rfl) ?_
  intro p e s m below meth c s₁ hx hby hml hret hlk hZ hown hnm X0 e0 hS0 hk0 CV0 hh0
  have hEL := hEL_ (a0 := a0) hw
  have hwS := hwS_ hw
  have N0 := Fr.nil n0
  have KP0 := Keep.refl h0 [a1]
  have hSt_ := hSt
  obtain ⟨S_cs, n_cs, S_kd0, S_kd1, S_kd2, S_kd3, S_kd4, S_kd5, S_kd6, S_kd7, S_kd8, S_kd9, S_kd10, S_kd11, S_kd12, S_kd13, S_kd14, S_kd15, S_kd16, S_kd17⟩ := hSt_
  have Sf_a1 : Safe Z EL s.vm h0 a1 := own_safe_null hZ.alike E_a1 F_a1v (wd_6 hw)
  show Go p e below _ (s₁.setTop (mkF m 0 #[.val (.ref a1), .val (.ref a2)] []))
  refine Go.step (fun _ k => XS.aloadN X0.here hx rfl (hb hby d_jdk_42_method_3_code_0) rfl rfl k) ?_
  show Go p e below _ (s₁.setTop (mkF m 1 #[.val (.ref a1), .val (.ref a2)] [(.ref a1)]))
  refine Go.step (fun _ k => XS.aloadN X0.here hx rfl (hb hby d_jdk_42_method_3_code_1) rfl rfl k) ?_
  show Go p e below _ (s₁.setTop (mkF m 2 #[.val (.ref a1), .val (.ref a2)] [(.ref a2), (.ref a1)]))
  refine Go.step (fun _ k => XS.iconst X0.here hx rfl (hb hby d_jdk_42_method_3_code_2) k) ?_
  show Go p e below _ (s₁.setTop (mkF m 3 #[.val (.ref a1), .val (.ref a2)] [(.int (0 : Int32)), (.ref a2), (.ref a1)]))
  refine Go.step (fun _ k => XS.aloadN X0.here hx rfl (hb hby d_jdk_42_method_3_code_3) rfl rfl k) ?_
  show Go p e below _ (s₁.setTop (mkF m 4 #[.val (.ref a1), .val (.ref a2)] [(.ref a2), (.int (0 : Int32)), (.ref a2), (.ref a1)]))
  have cp21 := A_a2
  obtain ⟨cl_20, Ar_20, -, Sz_20, Ng_20, -, -⟩ := cp21
  refine Go.step (fun _ k => X0.arraylength hx (by rw [e0]; exact Ar_20.1) (State.isArrayOf_alike hZ.alike Ar_20.2.1) (g := (mkF m 4 #[.val (.ref a1), .val (.ref a2)] [(.ref a2), (.int (0 : Int32)), (.ref a2), (.ref a1)])) rfl rfl (hb hby d_jdk_42_method_3_code_4) _ k) ?_
  rw [len_of Sz_20 Ng_20]
  show Go p e below _ (s₁.setTop (mkF m 5 #[.val (.ref a1), .val (.ref a2)] [(.int (0 : Int32)), (.int (0 : Int32)), (.ref a2), (.ref a1)]))
  refine Go.step (fun _ k => XS.aconstNull X0.here hx rfl (hb hby d_jdk_42_method_3_code_5) k) ?_
  show Go p e below _ (s₁.setTop (mkF m 6 #[.val (.ref a1), .val (.ref a2)] [.null, (.int (0 : Int32)), (.int (0 : Int32)), (.ref a2), (.ref a1)]))
  obtain ⟨v_22, T_22, L_22, X_22, hQ_22, hS_22, hZ_22, hown_22, C_22, st_22⟩ := goCW X0 hx hZ (y := ({ cls := "java/lang/String", name := "<init>", desc := "([CIILjava/lang/Void;)V" } : Jvm.MethodName)) hown hS0 hk0 rfl (wd_12 hw) (wd_13 hw) (wd_15 hw) (by decide) (backOfSH (W := 0) (rm_init4e l Z a0 hw zc kd0 kd1 kd2 kd3 kd4 kd5 kd6 kd7 kd8 kd9 kd10 kd11 kd12 kd13 kd14 kd15 kd16 kd17 (a1) (a2) h0 n0 (Nat.le_trans Z0 KP0.1) E_a1 F_a1v F_a1c g_a1 hSt hO) hZ (wd_15 hw) (wd_7 hw) (by decide) (by decide) hEL CV0) e0 (g := (mkF m 6 #[.val (.ref a1), .val (.ref a2)] [.null, (.int (0 : Int32)), (.int (0 : Int32)), (.ref a2), (.ref a1)])) rfl (by rw [hml]; rfl) (a := a1) (argsL := [(.ref a2), (.int (0 : Int32)), (.int (0 : Int32)), .null]) (rest := []) rfl (lenOf pd_0 rfl) rfl (by show 2 * 0 + _ ≤ _; exact Nat.le_of_eq rfl) (hb hby d_jdk_42_method_3_code_6) (by decide) (by decide)
  obtain ⟨rfl, Nq_22, K_22, u0_22⟩ := hQ_22
  have N_22 := Fr.app N0 Nq_22
  have CR_22 := CHr.trans (CHr.refl CV0) C_22
  have le_22 : h0.size ≤ T_22.heap.size := K_22.1
  have KP_22 := KP0.trans K_22 (allS (Or.inl (List.mem_of_getElem? (i := 0) rfl)) all0)
  have O_22 := hO.keep K_22 (allS g_a1 all0)
  refine Go.step st_22 ?_
  show Go p e below _ (T_22.setTop (mkF m 9 #[.val (.ref a1), .val (.ref a2)] []))
  exact Go.ret0W X_22 rfl hS_22 (Nat.le_refl _) hZ_22 hEL hh0 CR_22 hx hlk hret (hb hby d_jdk_42_method_3_code_9) (by decide) (by decide) (by exact ⟨rfl, N_22, KP_22, u0_22⟩)
--@E
--@C textOf
def Q_textOf (Z : State) (zc : Int32) (kd0 : Addr) (kd1 : Addr) (kd2 : Addr) (kd3 : Addr) (kd4 : Addr) (kd5 : Addr) (kd6 : Addr) (kd7 : Addr) (kd8 : Addr) (kd9 : Addr) (kd10 : Addr) (kd11 : Addr) (kd12 : Addr) (kd13 : Addr) (kd14 : Addr) (kd15 : Addr) (kd16 : Addr) (kd17 : Addr) (p1 : Int32) (c0 : Int32) (c1 : Int32) (c2 : Int32) (h0 : Heap) (n0 : Nat) (v : Option Value) (h : Heap) (L : List Loc) : Prop := ∃ (r : Addr), v = some (.ref r) ∧ Fr n0 L ∧ Keep h0 h [] ∧ h0.size ≤ r ∧ Str Z h.size h r (mkL p1 c0 c1 c2)
set_option maxRecDepth 65536 in
set_option maxHeartbeats 40000000 in
theorem rm_textOf (l : Launch) (Z : State) (a0 : Array Value) (hw : ∀ d ∈ tables_1, d.before a0 Z = true) (zc : Int32) (kd0 : Addr) (kd1 : Addr) (kd2 : Addr) (kd3 : Addr) (kd4 : Addr) (kd5 : Addr) (kd6 : Addr) (kd7 : Addr) (kd8 : Addr) (kd9 : Addr) (kd10 : Addr) (kd11 : Addr) (kd12 : Addr) (kd13 : Addr) (kd14 : Addr) (kd15 : Addr) (kd16 : Addr) (kd17 : Addr) (p1 : Int32) (c0 : Int32) (c1 : Int32) (c2 : Int32) (h0 : Heap) (n0 : Nat) (Z0 : n0 ≤ h0.size) (l_c0 : (¬ c0 < 0 ∧ ¬ (255 : Int32) < c0)) (l_c1 : (¬ c1 < 0 ∧ ¬ (255 : Int32) < c1)) (l_c2 : (¬ c2 < 0 ∧ ¬ (255 : Int32) < c2)) (hSt : St Z zc kd0 kd1 kd2 kd3 kd4 kd5 kd6 kd7 kd8 kd9 kd10 kd11 kd12 kd13 kd14 kd15 kd16 kd17) (hO : Old Z n0 h0) :
    CW l Z EL ({ cls := "com/example/stubwright/stubwright/idl/TokenMovedToPinLaw", name := "textOf", desc := "(ICCC)Ljava/lang/String;" } : Jvm.MethodName) [(Jvm.Cond.code ({ cls := "com/example/stubwright/stubwright/idl/TokenMovedToPinLaw", name := "textOf", desc := "(ICCC)Ljava/lang/String;" } : Jvm.MethodName) method_3_code (4 : Nat) (Option.some (Jvm.ClassFile.FieldType.object "java/lang/String")))] ({ frames := 4, cells := 6, slots := 12, locals := 66 } : Room) #[(.int p1), (.int c0), (.int c1), (.int c2)] h0 (Q_textOf Z zc kd0 kd1 kd2 kd3 kd4 kd5 kd6 kd7 kd8 kd9 kd10 kd11 kd12 kd13 kd14 kd15 kd16 kd17 p1 c0 c1 c2 h0 n0) := by
  refine CW.of (L0 := #[.val (.int p1), .val (.int c0), .val (.int c1), .val (.int c2)]) (plainFor_of_name pn_1) (fun m => by first | (simp [entryFrame, mkF, argsToLocals, Value.category]; done) | rfl) ?_
  intro p e s m below meth c s₁ hx hby hml hret hlk hZ hown hnm X0 e0 hS0 hk0 CV0 hh0
  have hEL := hEL_ (a0 := a0) hw
  have hwS := hwS_ hw
  have N0 := Fr.nil n0
  have KP0 := Keep.refl h0 []
  have hSt_ := hSt
  obtain ⟨S_cs, n_cs, S_kd0, S_kd1, S_kd2, S_kd3, S_kd4, S_kd5, S_kd6, S_kd7, S_kd8, S_kd9, S_kd10, S_kd11, S_kd12, S_kd13, S_kd14, S_kd15, S_kd16, S_kd17⟩ := hSt_
  show Go p e below _ (s₁.setTop (mkF m 0 #[.val (.int p1), .val (.int c0), .val (.int c1), .val (.int c2)] []))
  refine Go.step (fun _ k => XS.iloadN X0.here hx rfl (hb hby d_method_3_code_0) rfl  k) ?_
  show Go p e below _ (s₁.setTop (mkF m 1 #[.val (.int p1), .val (.int c0), .val (.int c1), .val (.int c2)] [(.int p1)]))
  by_cases u0 : p1 = (0 : Int32)
  · skip
    refine Go.step (fun _ k => XS.ifNo X0.here hx rfl (hb hby d_method_3_code_1) rfl ((if0 _ _).trans (teq u0).2) k) ?_
    show Go p e below _ (s₁.setTop (mkF m 4 #[.val (.int p1), .val (.int c0), .val (.int c1), .val (.int c2)] []))
    obtain ⟨T_23, h_23, X_23, e_23, E_23, A_23, D_23, -, st_23⟩ := newO X0 hx hZ hown (wd_5 hw) (wd_6 hw) (wd_7 hw) e0 (g := (mkF m 4 #[.val (.int p1), .val (.int c0), .val (.int c1), .val (.int c2)] [])) rfl (hb hby d_method_3_code_4) (by decide) (by decide)
    obtain ⟨b23, q_23⟩ : ∃ z, z = h0.size := ⟨_, rfl⟩
    rw [← q_23] at A_23 D_23 st_23
    refine Go.step st_23 ?_
    have C_23 := CHr.ext E_23 CV0
    have CR_23 := CHr.trans (CHr.refl CV0) C_23
    have le_23 : h0.size ≤ h_23.size := E_23.1
    have KP_23 := KP0.ext E_23
    have O_23 := hO.ext E_23
    have ge_23 : h0.size ≤ b23 := Nat.le_of_eq q_23.symm
    have sz_b23 : h0.size ≤ b23 := Nat.le_trans (Nat.le_refl _) ge_23
    have g_b23 : n0 ≤ b23 := Nat.le_trans Z0 sz_b23
    have F_23_32 : Fld Z h_23 b23 "java/lang/String" "coder" "B" (.int (0 : Int32)) := D_23 (Or.inr (wd_32 hw)) (ty := .byte) pf_1
    have F_23_34 : Fld Z h_23 b23 "java/lang/String" "value" "[B" .null := D_23 (Or.inr (wd_34 hw)) (ty := (.array .byte)) pf_0
    have Sf_b23 := Safe.ext E_23 CV0 (Safe.new ge_23)
    show Go p e below _ (T_23.setTop (mkF m 7 #[.val (.int p1), .val (.int c0), .val (.int c1), .val (.int c2)] [(.ref b23)]))
    refine Go.step (fun _ k => XS.dup X_23.here hx rfl (hb hby d_method_3_code_7) rfl rfl k) ?_
    show Go p e below _ (T_23.setTop (mkF m 8 #[.val (.int p1), .val (.int c0), .val (.int c1), .val (.int c2)] [(.ref b23), (.ref b23)]))
    refine Go.step (fun _ k => XS.iconst X_23.here hx rfl (hb hby d_method_3_code_8) k) ?_
    show Go p e below _ (T_23.setTop (mkF m 9 #[.val (.int p1), .val (.int c0), .val (.int c1), .val (.int c2)] [(.int (0 : Int32)), (.ref b23), (.ref b23)]))
    obtain ⟨T_24, h_24, k_24, X_24, e_24, E_24, A_24, st_24⟩ := newP X_23 hx hZ (aty := .char) (wd_8 hw) e_23 (g := (mkF m 9 #[.val (.int p1), .val (.int c0), .val (.int c1), .val (.int c2)] [(.int (0 : Int32)), (.ref b23), (.ref b23)])) rfl (hb hby d_method_3_code_9) rfl (by decide) (cap := 0) (by decide) (by decide) (by decide) (by decide)
    obtain ⟨b24, q_24⟩ : ∃ z, z = h_23.size := ⟨_, rfl⟩
    rw [← q_24] at A_24 st_24
    refine Go.step st_24 ?_
    have C_24 := CHr.ext E_24 C_23.1
    have CR_24 := CHr.trans CR_23 C_24
    have le_24 : h_23.size ≤ h_24.size := E_24.1
    have KP_24 := KP_23.ext E_24
    have O_24 := O_23.ext E_24
    have ge_24 : h_23.size ≤ b24 := Nat.le_of_eq q_24.symm
    have sz_b24 : h0.size ≤ b24 := Nat.le_trans le_23 ge_24
    have g_b24 : n0 ≤ b24 := Nat.le_trans Z0 sz_b24
    have V_24 : Arv Z h_24 b24 k_24 .char (0 : Int32) [] (.int (0 : Int32)) := Arv.new A_24 (by decide)
    have Sf_b24 := Safe.ext E_24 C_23.1 (Safe.new ge_24)
    show Go p e below _ (T_24.setTop (mkF m 11 #[.val (.int p1), .val (.int c0), .val (.int c1), .val (.int c2)] [(.ref b24), (.ref b23), (.ref b23)]))
    have f25 : Exa Z h_24 b23 "java/lang/String" := (A_23.ext E_24)
    have f26 : Fld Z h_24 b23 "java/lang/String" "value" "[B" .null := (F_23_34.ext E_24)
    have f27 : Fld Z h_24 b23 "java/lang/String" "coder" "B" (.int (0 : Int32)) := (F_23_32.ext E_24)
    obtain ⟨v_28, T_28, L_28, X_28, hQ_28, hS_28, hZ_28, hown_28, C_28, st_28⟩ := goCW X_24 hx hZ (y := ({ cls := "java/lang/String", name := "<init>", desc := "([C)V" } : Jvm.MethodName)) hown hS0 (Nat.le_trans hk0 (Nat.le_trans le_23 le_24)) rfl (wd_9 hw) (wd_10 hw) (wd_11 hw) (by decide) (backOfSH (W := 1) (rm_init1e l Z a0 hw zc kd0 kd1 kd2 kd3 kd4 kd5 kd6 kd7 kd8 kd9 kd10 kd11 kd12 kd13 kd14 kd15 kd16 kd17 (b23) (b24) (k_24) h_24 n0 (Nat.le_trans Z0 KP_24.1) f25 f26 f27 g_b23 V_24 hSt O_24) hZ (wd_11 hw) (wd_7 hw) (by decide) (by decide) hEL C_24.1) e_24 (g := (mkF m 11 #[.val (.int p1), .val (.int c0), .val (.int c1), .val (.int c2)] [(.ref b24), (.ref b23), (.ref b23)])) rfl (by rw [hml]; rfl) (a := b23) (argsL := [(.ref b24)]) (rest := [(.ref b23)]) rfl (lenOf pd_1 rfl) rfl (by show 2 * 0 + _ ≤ _; exact Nat.le_of_eq rfl) (hb hby d_method_3_code_11) (by decide) (by decide)
    obtain ⟨rfl, Nq_28, K_28, u0_28⟩ := hQ_28
    have N_28 := Fr.app N0 Nq_28
    have CR_28 := CHr.trans CR_24 C_28
    have le_28 : h_24.size ≤ T_28.heap.size := K_28.1
    have KP_28 := KP_24.trans K_28 (allS (Or.inr sz_b23) all0)
    have O_28 := O_24.keep K_28 (allS g_b23 all0)
    refine Go.step st_28 ?_
    show Go p e below _ (T_28.setTop (mkF m 14 #[.val (.int p1), .val (.int c0), .val (.int c1), .val (.int c2)] [(.ref b23)]))
    exact Go.retVW X_28 rfl hS_28 (Nat.le_refl _) hZ_28 hEL hh0 CR_28 hx hlk hret rfl (Or.inr (Or.inr (Or.inr (Or.inr ⟨rfl, rfl, rfl⟩)))) (hb hby d_method_3_code_14) (by decide) (by decide) (by exact ⟨b23, rfl, N_28, KP_28, sz_b23, (by rw [mkL, if_pos u0]; exact u0_28)⟩)
  · skip
    refine Go.step (fun _ k => XS.ifYes X0.here hx rfl (pc0 := 1) (pc' := 15) rfl (hb hby d_method_3_code_1) rfl ((if0 _ _).trans (feq u0).2) (by decide) (by decide) k) ?_
    show Go p e below _ (s₁.setTop (mkF m 15 #[.val (.int p1), .val (.int c0), .val (.int c1), .val (.int c2)] []))
    refine Go.step (fun _ k => XS.iloadN X0.here hx rfl (hb hby d_method_3_code_15) rfl  k) ?_
    show Go p e below _ (s₁.setTop (mkF m 16 #[.val (.int p1), .val (.int c0), .val (.int c1), .val (.int c2)] [(.int p1)]))
    refine Go.step (fun _ k => XS.iconst X0.here hx rfl (hb hby d_method_3_code_16) k) ?_
    show Go p e below _ (s₁.setTop (mkF m 17 #[.val (.int p1), .val (.int c0), .val (.int c1), .val (.int c2)] [(.int (1 : Int32)), (.int p1)]))
    by_cases u1 : p1 = (1 : Int32)
    · skip
      refine Go.step (fun _ k => XS.icmpNo X0.here hx rfl (hb hby d_method_3_code_17) rfl (teq u1).2 k) ?_
      show Go p e below _ (s₁.setTop (mkF m 20 #[.val (.int p1), .val (.int c0), .val (.int c1), .val (.int c2)] []))
      obtain ⟨T_29, h_29, X_29, e_29, E_29, A_29, D_29, -, st_29⟩ := newO X0 hx hZ hown (wd_5 hw) (wd_6 hw) (wd_7 hw) e0 (g := (mkF m 20 #[.val (.int p1), .val (.int c0), .val (.int c1), .val (.int c2)] [])) rfl (hb hby d_method_3_code_20) (by decide) (by decide)
      obtain ⟨b29, q_29⟩ : ∃ z, z = h0.size := ⟨_, rfl⟩
      rw [← q_29] at A_29 D_29 st_29
      refine Go.step st_29 ?_
      have C_29 := CHr.ext E_29 CV0
      have CR_29 := CHr.trans (CHr.refl CV0) C_29
      have le_29 : h0.size ≤ h_29.size := E_29.1
      have KP_29 := KP0.ext E_29
      have O_29 := hO.ext E_29
      have ge_29 : h0.size ≤ b29 := Nat.le_of_eq q_29.symm
      have sz_b29 : h0.size ≤ b29 := Nat.le_trans (Nat.le_refl _) ge_29
      have g_b29 : n0 ≤ b29 := Nat.le_trans Z0 sz_b29
      have F_29_32 : Fld Z h_29 b29 "java/lang/String" "coder" "B" (.int (0 : Int32)) := D_29 (Or.inr (wd_32 hw)) (ty := .byte) pf_1
      have F_29_34 : Fld Z h_29 b29 "java/lang/String" "value" "[B" .null := D_29 (Or.inr (wd_34 hw)) (ty := (.array .byte)) pf_0
      have Sf_b29 := Safe.ext E_29 CV0 (Safe.new ge_29)
      show Go p e below _ (T_29.setTop (mkF m 23 #[.val (.int p1), .val (.int c0), .val (.int c1), .val (.int c2)] [(.ref b29)]))
      refine Go.step (fun _ k => XS.dup X_29.here hx rfl (hb hby d_method_3_code_23) rfl rfl k) ?_
      show Go p e below _ (T_29.setTop (mkF m 24 #[.val (.int p1), .val (.int c0), .val (.int c1), .val (.int c2)] [(.ref b29), (.ref b29)]))
      refine Go.step (fun _ k => XS.iconst X_29.here hx rfl (hb hby d_method_3_code_24) k) ?_
      show Go p e below _ (T_29.setTop (mkF m 25 #[.val (.int p1), .val (.int c0), .val (.int c1), .val (.int c2)] [(.int (1 : Int32)), (.ref b29), (.ref b29)]))
      obtain ⟨T_30, h_30, k_30, X_30, e_30, E_30, A_30, st_30⟩ := newP X_29 hx hZ (aty := .char) (wd_8 hw) e_29 (g := (mkF m 25 #[.val (.int p1), .val (.int c0), .val (.int c1), .val (.int c2)] [(.int (1 : Int32)), (.ref b29), (.ref b29)])) rfl (hb hby d_method_3_code_25) rfl (by decide) (cap := 1) (by decide) (by decide) (by decide) (by decide)
      obtain ⟨b30, q_30⟩ : ∃ z, z = h_29.size := ⟨_, rfl⟩
      rw [← q_30] at A_30 st_30
      refine Go.step st_30 ?_
      have C_30 := CHr.ext E_30 C_29.1
      have CR_30 := CHr.trans CR_29 C_30
      have le_30 : h_29.size ≤ h_30.size := E_30.1
      have KP_30 := KP_29.ext E_30
      have O_30 := O_29.ext E_30
      have ge_30 : h_29.size ≤ b30 := Nat.le_of_eq q_30.symm
      have sz_b30 : h0.size ≤ b30 := Nat.le_trans le_29 ge_30
      have g_b30 : n0 ≤ b30 := Nat.le_trans Z0 sz_b30
      have V_30 : Arv Z h_30 b30 k_30 .char (1 : Int32) [(.int (0 : Int32))] (.int (0 : Int32)) := (Arv.new A_30 (by decide)).pad (pad_rep [] (.int (0 : Int32)) 1)
      have Sf_b30 := Safe.ext E_30 C_29.1 (Safe.new ge_30)
      show Go p e below _ (T_30.setTop (mkF m 27 #[.val (.int p1), .val (.int c0), .val (.int c1), .val (.int c2)] [(.ref b30), (.ref b29), (.ref b29)]))
      refine Go.step (fun _ k => XS.dup X_30.here hx rfl (hb hby d_method_3_code_27) rfl rfl k) ?_
      show Go p e below _ (T_30.setTop (mkF m 28 #[.val (.int p1), .val (.int c0), .val (.int c1), .val (.int c2)] [(.ref b30), (.ref b30), (.ref b29), (.ref b29)]))
      refine Go.step (fun _ k => XS.iconst X_30.here hx rfl (hb hby d_method_3_code_28) k) ?_
      show Go p e below _ (T_30.setTop (mkF m 29 #[.val (.int p1), .val (.int c0), .val (.int c1), .val (.int c2)] [(.int (0 : Int32)), (.ref b30), (.ref b30), (.ref b29), (.ref b29)]))
      refine Go.step (fun _ k => XS.iloadN X_30.here hx rfl (hb hby d_method_3_code_29) rfl  k) ?_
      show Go p e below _ (T_30.setTop (mkF m 30 #[.val (.int p1), .val (.int c0), .val (.int c1), .val (.int c2)] [(.int c0), (.int (0 : Int32)), (.ref b30), (.ref b30), (.ref b29), (.ref b29)]))
      have cp32 := V_30
      obtain ⟨cl_31, Ar_31, ck_31, Sz_31, Ng_31, Hs_31, Gs_31⟩ := cp32
      have hin_31 : ¬ ((0 : Int32) < 0 ∨ cl_31.slots.size ≤ ((0 : Int32)).toNatClampNeg) := inb_of Sz_31 ⟨by decide, by decide⟩
      obtain ⟨T_31, h_31, X_31, e_31, W_31, st_31⟩ := stC X_30 hx hZ e_30 Ar_31 (j := (0 : Int32)) hin_31 (g := (mkF m 30 #[.val (.int p1), .val (.int c0), .val (.int c1), .val (.int c2)] [(.int c0), (.int (0 : Int32)), (.ref b30), (.ref b30), (.ref b29), (.ref b29)])) rfl rfl (hb hby d_method_3_code_30)
      refine Go.step st_31 ?_
      have N_31 := Fr.snoc X_31 N0 g_b30
      have C_31 := CHr.wr W_31 (Safe.arv hZ.alike V_30 (by decide)) C_30.1
      have CR_31 := CHr.trans CR_30 C_31
      have le_31 : h_30.size ≤ h_31.size := Nat.le_of_eq W_31.size.symm
      have KP_31 := KP_30.wr W_31 (Or.inr sz_b30)
      have O_31 := O_30.wr W_31 g_b30
      have V_31 : Arv Z h_31 b30 k_30 .char (1 : Int32) [(.int c0)] (.int (0 : Int32)) := by
        have q := Arv.set Ar_31 ck_31 Sz_31 Ng_31 Hs_31 Gs_31 (fits_nar_char _) W_31 0 rfl (Nat.le_of_ble_eq_true rfl)
        rw [nar_lat l_c0] at q; exact q
      show Go p e below _ (T_31.setTop (mkF m 31 #[.val (.int p1), .val (.int c0), .val (.int c1), .val (.int c2)] [(.ref b30), (.ref b29), (.ref b29)]))
      have f33 : Exa Z h_31 b29 "java/lang/String" := ((A_29.ext E_30).wr W_31)
      have f34 : Fld Z h_31 b29 "java/lang/String" "value" "[B" .null := ((F_29_34.ext E_30).other W_31 (Or.inl (Nat.ne_of_lt (Nat.lt_of_lt_of_le A_29.lt (Nat.le_trans (Nat.le_refl _) ge_30)))))
      have f35 : Fld Z h_31 b29 "java/lang/String" "coder" "B" (.int (0 : Int32)) := ((F_29_32.ext E_30).other W_31 (Or.inl (Nat.ne_of_lt (Nat.lt_of_lt_of_le A_29.lt (Nat.le_trans (Nat.le_refl _) ge_30)))))
      have hp36 : ∀ c ∈ ([c0] : List Int32), ¬ c < 0 ∧ ¬ (255 : Int32) < c := (latc l_c0 lat0)
      obtain ⟨v_37, T_37, L_37, X_37, hQ_37, st_37⟩ := goC X_31 hx hZ (y := ({ cls := "java/lang/String", name := "<init>", desc := "([C)V" } : Jvm.MethodName)) hown rfl (wd_9 hw) (wd_10 hw) (wd_11 hw) (by decide) (StrChars.Road.backV (W := 1) hZ (sw_words hw) (kI := 4) (wd_6 hw) (cs := ([c0] : List Int32)) (bs := ([c0] : List Int32).map (fun c => c.toInt8.toInt32)) (n := 1) g_b29 (Nat.le_trans Z0 KP_31.1) f33 f34 f35 V_31 (S_cs.ext O_31.2) n_cs rfl rfl (by decide) (by decide) hp36 rfl (by decide) (by decide)) e_31 (g := (mkF m 31 #[.val (.int p1), .val (.int c0), .val (.int c1), .val (.int c2)] [(.ref b30), (.ref b29), (.ref b29)])) rfl (by rw [hml]; rfl) (a := b29) (argsL := [(.ref b30)]) (rest := [(.ref b29)]) rfl (lenOf pd_1 rfl) rfl (by show 2 * 0 + _ ≤ _; exact Nat.le_of_eq rfl) (hb hby d_method_3_code_31) (by decide) (by decide)
      obtain ⟨rfl, Nq_37, K_37, Ex_37, Fc_37, t_37, kb_37, -, gt_37, -, Fv_37, Av_37⟩ := hQ_37
      have N_37 := Fr.app N_31 Nq_37
      have C_37 := CHr.keep K_37 (sfS (CHr.safe (CHr.trans C_30 C_31) A_29.lt Sf_b29) sf0) C_31.1
      have CR_37 := CHr.trans CR_31 C_37
      have le_37 : h_31.size ≤ T_37.heap.size := K_37.1
      have KP_37 := KP_31.trans K_37 (allS (Or.inr sz_b29) all0)
      have O_37 := O_31.keep K_37 (allS g_b29 all0)
      have Sx_37 : Str Z (T_37.heap).size (T_37.heap) b29 ([c0] : List Int32) := ⟨t_37, kb_37, Ex_37.lt, Av_37.lt, Ex_37, Fv_37, Fc_37, Av_37, hp36, Nat.le_of_ble_eq_true rfl⟩
      refine Go.step st_37 ?_
      show Go p e below _ (T_37.setTop (mkF m 34 #[.val (.int p1), .val (.int c0), .val (.int c1), .val (.int c2)] [(.ref b29)]))
      exact Go.retVW X_37 rfl hS0 (Nat.le_trans hk0 (Nat.le_trans le_29 (Nat.le_trans le_30 (Nat.le_trans le_31 le_37)))) hZ hEL hh0 CR_37 hx hlk hret rfl (Or.inr (Or.inr (Or.inr (Or.inr ⟨rfl, rfl, rfl⟩)))) (hb hby d_method_3_code_34) (by decide) (by decide) (by exact ⟨b29, rfl, N_37, KP_37, sz_b29, (by rw [mkL, if_neg u0, if_pos u1]; exact Sx_37)⟩)
    · skip
      refine Go.step (fun _ k => XS.icmpYes X0.here hx rfl (pc0 := 17) (pc' := 35) rfl (hb hby d_method_3_code_17) rfl (feq u1).2 (by decide) (by decide) k) ?_
      show Go p e below _ (s₁.setTop (mkF m 35 #[.val (.int p1), .val (.int c0), .val (.int c1), .val (.int c2)] []))
      refine Go.step (fun _ k => XS.iloadN X0.here hx rfl (hb hby d_method_3_code_35) rfl  k) ?_
      show Go p e below _ (s₁.setTop (mkF m 36 #[.val (.int p1), .val (.int c0), .val (.int c1), .val (.int c2)] [(.int p1)]))
      refine Go.step (fun _ k => XS.iconst X0.here hx rfl (hb hby d_method_3_code_36) k) ?_
      show Go p e below _ (s₁.setTop (mkF m 37 #[.val (.int p1), .val (.int c0), .val (.int c1), .val (.int c2)] [(.int (2 : Int32)), (.int p1)]))
      by_cases u2 : p1 = (2 : Int32)
      · skip
        refine Go.step (fun _ k => XS.icmpNo X0.here hx rfl (hb hby d_method_3_code_37) rfl (teq u2).2 k) ?_
        show Go p e below _ (s₁.setTop (mkF m 40 #[.val (.int p1), .val (.int c0), .val (.int c1), .val (.int c2)] []))
        obtain ⟨T_38, h_38, X_38, e_38, E_38, A_38, D_38, -, st_38⟩ := newO X0 hx hZ hown (wd_5 hw) (wd_6 hw) (wd_7 hw) e0 (g := (mkF m 40 #[.val (.int p1), .val (.int c0), .val (.int c1), .val (.int c2)] [])) rfl (hb hby d_method_3_code_40) (by decide) (by decide)
        obtain ⟨b38, q_38⟩ : ∃ z, z = h0.size := ⟨_, rfl⟩
        rw [← q_38] at A_38 D_38 st_38
        refine Go.step st_38 ?_
        have C_38 := CHr.ext E_38 CV0
        have CR_38 := CHr.trans (CHr.refl CV0) C_38
        have le_38 : h0.size ≤ h_38.size := E_38.1
        have KP_38 := KP0.ext E_38
        have O_38 := hO.ext E_38
        have ge_38 : h0.size ≤ b38 := Nat.le_of_eq q_38.symm
        have sz_b38 : h0.size ≤ b38 := Nat.le_trans (Nat.le_refl _) ge_38
        have g_b38 : n0 ≤ b38 := Nat.le_trans Z0 sz_b38
        have F_38_32 : Fld Z h_38 b38 "java/lang/String" "coder" "B" (.int (0 : Int32)) := D_38 (Or.inr (wd_32 hw)) (ty := .byte) pf_1
        have F_38_34 : Fld Z h_38 b38 "java/lang/String" "value" "[B" .null := D_38 (Or.inr (wd_34 hw)) (ty := (.array .byte)) pf_0
        have Sf_b38 := Safe.ext E_38 CV0 (Safe.new ge_38)
        show Go p e below _ (T_38.setTop (mkF m 43 #[.val (.int p1), .val (.int c0), .val (.int c1), .val (.int c2)] [(.ref b38)]))
        refine Go.step (fun _ k => XS.dup X_38.here hx rfl (hb hby d_method_3_code_43) rfl rfl k) ?_
        show Go p e below _ (T_38.setTop (mkF m 44 #[.val (.int p1), .val (.int c0), .val (.int c1), .val (.int c2)] [(.ref b38), (.ref b38)]))
        refine Go.step (fun _ k => XS.iconst X_38.here hx rfl (hb hby d_method_3_code_44) k) ?_
        show Go p e below _ (T_38.setTop (mkF m 45 #[.val (.int p1), .val (.int c0), .val (.int c1), .val (.int c2)] [(.int (2 : Int32)), (.ref b38), (.ref b38)]))
        obtain ⟨T_39, h_39, k_39, X_39, e_39, E_39, A_39, st_39⟩ := newP X_38 hx hZ (aty := .char) (wd_8 hw) e_38 (g := (mkF m 45 #[.val (.int p1), .val (.int c0), .val (.int c1), .val (.int c2)] [(.int (2 : Int32)), (.ref b38), (.ref b38)])) rfl (hb hby d_method_3_code_45) rfl (by decide) (cap := 2) (by decide) (by decide) (by decide) (by decide)
        obtain ⟨b39, q_39⟩ : ∃ z, z = h_38.size := ⟨_, rfl⟩
        rw [← q_39] at A_39 st_39
        refine Go.step st_39 ?_
        have C_39 := CHr.ext E_39 C_38.1
        have CR_39 := CHr.trans CR_38 C_39
        have le_39 : h_38.size ≤ h_39.size := E_39.1
        have KP_39 := KP_38.ext E_39
        have O_39 := O_38.ext E_39
        have ge_39 : h_38.size ≤ b39 := Nat.le_of_eq q_39.symm
        have sz_b39 : h0.size ≤ b39 := Nat.le_trans le_38 ge_39
        have g_b39 : n0 ≤ b39 := Nat.le_trans Z0 sz_b39
        have V_39 : Arv Z h_39 b39 k_39 .char (2 : Int32) [(.int (0 : Int32)), (.int (0 : Int32))] (.int (0 : Int32)) := (Arv.new A_39 (by decide)).pad (pad_rep [] (.int (0 : Int32)) 2)
        have Sf_b39 := Safe.ext E_39 C_38.1 (Safe.new ge_39)
        show Go p e below _ (T_39.setTop (mkF m 47 #[.val (.int p1), .val (.int c0), .val (.int c1), .val (.int c2)] [(.ref b39), (.ref b38), (.ref b38)]))
        refine Go.step (fun _ k => XS.dup X_39.here hx rfl (hb hby d_method_3_code_47) rfl rfl k) ?_
        show Go p e below _ (T_39.setTop (mkF m 48 #[.val (.int p1), .val (.int c0), .val (.int c1), .val (.int c2)] [(.ref b39), (.ref b39), (.ref b38), (.ref b38)]))
        refine Go.step (fun _ k => XS.iconst X_39.here hx rfl (hb hby d_method_3_code_48) k) ?_
        show Go p e below _ (T_39.setTop (mkF m 49 #[.val (.int p1), .val (.int c0), .val (.int c1), .val (.int c2)] [(.int (0 : Int32)), (.ref b39), (.ref b39), (.ref b38), (.ref b38)]))
        refine Go.step (fun _ k => XS.iloadN X_39.here hx rfl (hb hby d_method_3_code_49) rfl  k) ?_
        show Go p e below _ (T_39.setTop (mkF m 50 #[.val (.int p1), .val (.int c0), .val (.int c1), .val (.int c2)] [(.int c0), (.int (0 : Int32)), (.ref b39), (.ref b39), (.ref b38), (.ref b38)]))
        have cp41 := V_39
        obtain ⟨cl_40, Ar_40, ck_40, Sz_40, Ng_40, Hs_40, Gs_40⟩ := cp41
        have hin_40 : ¬ ((0 : Int32) < 0 ∨ cl_40.slots.size ≤ ((0 : Int32)).toNatClampNeg) := inb_of Sz_40 ⟨by decide, by decide⟩
        obtain ⟨T_40, h_40, X_40, e_40, W_40, st_40⟩ := stC X_39 hx hZ e_39 Ar_40 (j := (0 : Int32)) hin_40 (g := (mkF m 50 #[.val (.int p1), .val (.int c0), .val (.int c1), .val (.int c2)] [(.int c0), (.int (0 : Int32)), (.ref b39), (.ref b39), (.ref b38), (.ref b38)])) rfl rfl (hb hby d_method_3_code_50)
        refine Go.step st_40 ?_
        have N_40 := Fr.snoc X_40 N0 g_b39
        have C_40 := CHr.wr W_40 (Safe.arv hZ.alike V_39 (by decide)) C_39.1
        have CR_40 := CHr.trans CR_39 C_40
        have le_40 : h_39.size ≤ h_40.size := Nat.le_of_eq W_40.size.symm
        have KP_40 := KP_39.wr W_40 (Or.inr sz_b39)
        have O_40 := O_39.wr W_40 g_b39
        have V_40 : Arv Z h_40 b39 k_39 .char (2 : Int32) [(.int c0), (.int (0 : Int32))] (.int (0 : Int32)) := by
          have q := Arv.set Ar_40 ck_40 Sz_40 Ng_40 Hs_40 Gs_40 (fits_nar_char _) W_40 0 rfl (Nat.le_of_ble_eq_true rfl)
          rw [nar_lat l_c0] at q; exact q
        show Go p e below _ (T_40.setTop (mkF m 51 #[.val (.int p1), .val (.int c0), .val (.int c1), .val (.int c2)] [(.ref b39), (.ref b38), (.ref b38)]))
        refine Go.step (fun _ k => XS.dup X_40.here hx rfl (hb hby d_method_3_code_51) rfl rfl k) ?_
        show Go p e below _ (T_40.setTop (mkF m 52 #[.val (.int p1), .val (.int c0), .val (.int c1), .val (.int c2)] [(.ref b39), (.ref b39), (.ref b38), (.ref b38)]))
        refine Go.step (fun _ k => XS.iconst X_40.here hx rfl (hb hby d_method_3_code_52) k) ?_
        show Go p e below _ (T_40.setTop (mkF m 53 #[.val (.int p1), .val (.int c0), .val (.int c1), .val (.int c2)] [(.int (1 : Int32)), (.ref b39), (.ref b39), (.ref b38), (.ref b38)]))
        refine Go.step (fun _ k => XS.iloadN X_40.here hx rfl (hb hby d_method_3_code_53) rfl  k) ?_
        show Go p e below _ (T_40.setTop (mkF m 54 #[.val (.int p1), .val (.int c0), .val (.int c1), .val (.int c2)] [(.int c1), (.int (1 : Int32)), (.ref b39), (.ref b39), (.ref b38), (.ref b38)]))
        have cp43 := V_40
        obtain ⟨cl_42, Ar_42, ck_42, Sz_42, Ng_42, Hs_42, Gs_42⟩ := cp43
        have hin_42 : ¬ ((1 : Int32) < 0 ∨ cl_42.slots.size ≤ ((1 : Int32)).toNatClampNeg) := inb_of Sz_42 ⟨by decide, by decide⟩
        obtain ⟨T_42, h_42, X_42, e_42, W_42, st_42⟩ := stC X_40 hx hZ e_40 Ar_42 (j := (1 : Int32)) hin_42 (g := (mkF m 54 #[.val (.int p1), .val (.int c0), .val (.int c1), .val (.int c2)] [(.int c1), (.int (1 : Int32)), (.ref b39), (.ref b39), (.ref b38), (.ref b38)])) rfl rfl (hb hby d_method_3_code_54)
        refine Go.step st_42 ?_
        have N_42 := Fr.snoc X_42 N_40 g_b39
        have C_42 := CHr.wr W_42 (Safe.arv hZ.alike V_40 (by decide)) C_40.1
        have CR_42 := CHr.trans CR_40 C_42
        have le_42 : h_40.size ≤ h_42.size := Nat.le_of_eq W_42.size.symm
        have KP_42 := KP_40.wr W_42 (Or.inr sz_b39)
        have O_42 := O_40.wr W_42 g_b39
        have V_42 : Arv Z h_42 b39 k_39 .char (2 : Int32) [(.int c0), (.int c1)] (.int (0 : Int32)) := by
          have q := Arv.set Ar_42 ck_42 Sz_42 Ng_42 Hs_42 Gs_42 (fits_nar_char _) W_42 1 rfl (Nat.le_of_ble_eq_true rfl)
          rw [nar_lat l_c1] at q; exact q
        show Go p e below _ (T_42.setTop (mkF m 55 #[.val (.int p1), .val (.int c0), .val (.int c1), .val (.int c2)] [(.ref b39), (.ref b38), (.ref b38)]))
        have f44 : Exa Z h_42 b38 "java/lang/String" := (((A_38.ext E_39).wr W_40).wr W_42)
        have f45 : Fld Z h_42 b38 "java/lang/String" "value" "[B" .null := (((F_38_34.ext E_39).other W_40 (Or.inl (Nat.ne_of_lt (Nat.lt_of_lt_of_le A_38.lt (Nat.le_trans (Nat.le_refl _) ge_39))))).other W_42 (Or.inl (Nat.ne_of_lt (Nat.lt_of_lt_of_le A_38.lt (Nat.le_trans (Nat.le_refl _) ge_39)))))
        have f46 : Fld Z h_42 b38 "java/lang/String" "coder" "B" (.int (0 : Int32)) := (((F_38_32.ext E_39).other W_40 (Or.inl (Nat.ne_of_lt (Nat.lt_of_lt_of_le A_38.lt (Nat.le_trans (Nat.le_refl _) ge_39))))).other W_42 (Or.inl (Nat.ne_of_lt (Nat.lt_of_lt_of_le A_38.lt (Nat.le_trans (Nat.le_refl _) ge_39)))))
        have hp47 : ∀ c ∈ ([c0, c1] : List Int32), ¬ c < 0 ∧ ¬ (255 : Int32) < c := (latc l_c0 (latc l_c1 lat0))
        obtain ⟨v_48, T_48, L_48, X_48, hQ_48, st_48⟩ := goC X_42 hx hZ (y := ({ cls := "java/lang/String", name := "<init>", desc := "([C)V" } : Jvm.MethodName)) hown rfl (wd_9 hw) (wd_10 hw) (wd_11 hw) (by decide) (StrChars.Road.backV (W := 1) hZ (sw_words hw) (kI := 4) (wd_6 hw) (cs := ([c0, c1] : List Int32)) (bs := ([c0, c1] : List Int32).map (fun c => c.toInt8.toInt32)) (n := 2) g_b38 (Nat.le_trans Z0 KP_42.1) f44 f45 f46 V_42 (S_cs.ext O_42.2) n_cs rfl rfl (by decide) (by decide) hp47 rfl (by decide) (by decide)) e_42 (g := (mkF m 55 #[.val (.int p1), .val (.int c0), .val (.int c1), .val (.int c2)] [(.ref b39), (.ref b38), (.ref b38)])) rfl (by rw [hml]; rfl) (a := b38) (argsL := [(.ref b39)]) (rest := [(.ref b38)]) rfl (lenOf pd_1 rfl) rfl (by show 2 * 0 + _ ≤ _; exact Nat.le_of_eq rfl) (hb hby d_method_3_code_55) (by decide) (by decide)
        obtain ⟨rfl, Nq_48, K_48, Ex_48, Fc_48, t_48, kb_48, -, gt_48, -, Fv_48, Av_48⟩ := hQ_48
        have N_48 := Fr.app N_42 Nq_48
        have C_48 := CHr.keep K_48 (sfS (CHr.safe (CHr.trans (CHr.trans C_39 C_40) C_42) A_38.lt Sf_b38) sf0) C_42.1
        have CR_48 := CHr.trans CR_42 C_48
        have le_48 : h_42.size ≤ T_48.heap.size := K_48.1
        have KP_48 := KP_42.trans K_48 (allS (Or.inr sz_b38) all0)
        have O_48 := O_42.keep K_48 (allS g_b38 all0)
        have Sx_48 : Str Z (T_48.heap).size (T_48.heap) b38 ([c0, c1] : List Int32) := ⟨t_48, kb_48, Ex_48.lt, Av_48.lt, Ex_48, Fv_48, Fc_48, Av_48, hp47, Nat.le_of_ble_eq_true rfl⟩
        refine Go.step st_48 ?_
        show Go p e below _ (T_48.setTop (mkF m 58 #[.val (.int p1), .val (.int c0), .val (.int c1), .val (.int c2)] [(.ref b38)]))
        exact Go.retVW X_48 rfl hS0 (Nat.le_trans hk0 (Nat.le_trans le_38 (Nat.le_trans le_39 (Nat.le_trans le_40 (Nat.le_trans le_42 le_48))))) hZ hEL hh0 CR_48 hx hlk hret rfl (Or.inr (Or.inr (Or.inr (Or.inr ⟨rfl, rfl, rfl⟩)))) (hb hby d_method_3_code_58) (by decide) (by decide) (by exact ⟨b38, rfl, N_48, KP_48, sz_b38, (by rw [mkL, if_neg u0, if_neg u1, if_pos u2]; exact Sx_48)⟩)
      · skip
        refine Go.step (fun _ k => XS.icmpYes X0.here hx rfl (pc0 := 37) (pc' := 59) rfl (hb hby d_method_3_code_37) rfl (feq u2).2 (by decide) (by decide) k) ?_
        show Go p e below _ (s₁.setTop (mkF m 59 #[.val (.int p1), .val (.int c0), .val (.int c1), .val (.int c2)] []))
        obtain ⟨T_49, h_49, X_49, e_49, E_49, A_49, D_49, -, st_49⟩ := newO X0 hx hZ hown (wd_5 hw) (wd_6 hw) (wd_7 hw) e0 (g := (mkF m 59 #[.val (.int p1), .val (.int c0), .val (.int c1), .val (.int c2)] [])) rfl (hb hby d_method_3_code_59) (by decide) (by decide)
        obtain ⟨b49, q_49⟩ : ∃ z, z = h0.size := ⟨_, rfl⟩
        rw [← q_49] at A_49 D_49 st_49
        refine Go.step st_49 ?_
        have C_49 := CHr.ext E_49 CV0
        have CR_49 := CHr.trans (CHr.refl CV0) C_49
        have le_49 : h0.size ≤ h_49.size := E_49.1
        have KP_49 := KP0.ext E_49
        have O_49 := hO.ext E_49
        have ge_49 : h0.size ≤ b49 := Nat.le_of_eq q_49.symm
        have sz_b49 : h0.size ≤ b49 := Nat.le_trans (Nat.le_refl _) ge_49
        have g_b49 : n0 ≤ b49 := Nat.le_trans Z0 sz_b49
        have F_49_32 : Fld Z h_49 b49 "java/lang/String" "coder" "B" (.int (0 : Int32)) := D_49 (Or.inr (wd_32 hw)) (ty := .byte) pf_1
        have F_49_34 : Fld Z h_49 b49 "java/lang/String" "value" "[B" .null := D_49 (Or.inr (wd_34 hw)) (ty := (.array .byte)) pf_0
        have Sf_b49 := Safe.ext E_49 CV0 (Safe.new ge_49)
        show Go p e below _ (T_49.setTop (mkF m 62 #[.val (.int p1), .val (.int c0), .val (.int c1), .val (.int c2)] [(.ref b49)]))
        refine Go.step (fun _ k => XS.dup X_49.here hx rfl (hb hby d_method_3_code_62) rfl rfl k) ?_
        show Go p e below _ (T_49.setTop (mkF m 63 #[.val (.int p1), .val (.int c0), .val (.int c1), .val (.int c2)] [(.ref b49), (.ref b49)]))
        refine Go.step (fun _ k => XS.iconst X_49.here hx rfl (hb hby d_method_3_code_63) k) ?_
        show Go p e below _ (T_49.setTop (mkF m 64 #[.val (.int p1), .val (.int c0), .val (.int c1), .val (.int c2)] [(.int (3 : Int32)), (.ref b49), (.ref b49)]))
        obtain ⟨T_50, h_50, k_50, X_50, e_50, E_50, A_50, st_50⟩ := newP X_49 hx hZ (aty := .char) (wd_8 hw) e_49 (g := (mkF m 64 #[.val (.int p1), .val (.int c0), .val (.int c1), .val (.int c2)] [(.int (3 : Int32)), (.ref b49), (.ref b49)])) rfl (hb hby d_method_3_code_64) rfl (by decide) (cap := 3) (by decide) (by decide) (by decide) (by decide)
        obtain ⟨b50, q_50⟩ : ∃ z, z = h_49.size := ⟨_, rfl⟩
        rw [← q_50] at A_50 st_50
        refine Go.step st_50 ?_
        have C_50 := CHr.ext E_50 C_49.1
        have CR_50 := CHr.trans CR_49 C_50
        have le_50 : h_49.size ≤ h_50.size := E_50.1
        have KP_50 := KP_49.ext E_50
        have O_50 := O_49.ext E_50
        have ge_50 : h_49.size ≤ b50 := Nat.le_of_eq q_50.symm
        have sz_b50 : h0.size ≤ b50 := Nat.le_trans le_49 ge_50
        have g_b50 : n0 ≤ b50 := Nat.le_trans Z0 sz_b50
        have V_50 : Arv Z h_50 b50 k_50 .char (3 : Int32) [(.int (0 : Int32)), (.int (0 : Int32)), (.int (0 : Int32))] (.int (0 : Int32)) := (Arv.new A_50 (by decide)).pad (pad_rep [] (.int (0 : Int32)) 3)
        have Sf_b50 := Safe.ext E_50 C_49.1 (Safe.new ge_50)
        show Go p e below _ (T_50.setTop (mkF m 66 #[.val (.int p1), .val (.int c0), .val (.int c1), .val (.int c2)] [(.ref b50), (.ref b49), (.ref b49)]))
        refine Go.step (fun _ k => XS.dup X_50.here hx rfl (hb hby d_method_3_code_66) rfl rfl k) ?_
        show Go p e below _ (T_50.setTop (mkF m 67 #[.val (.int p1), .val (.int c0), .val (.int c1), .val (.int c2)] [(.ref b50), (.ref b50), (.ref b49), (.ref b49)]))
        refine Go.step (fun _ k => XS.iconst X_50.here hx rfl (hb hby d_method_3_code_67) k) ?_
        show Go p e below _ (T_50.setTop (mkF m 68 #[.val (.int p1), .val (.int c0), .val (.int c1), .val (.int c2)] [(.int (0 : Int32)), (.ref b50), (.ref b50), (.ref b49), (.ref b49)]))
        refine Go.step (fun _ k => XS.iloadN X_50.here hx rfl (hb hby d_method_3_code_68) rfl  k) ?_
        show Go p e below _ (T_50.setTop (mkF m 69 #[.val (.int p1), .val (.int c0), .val (.int c1), .val (.int c2)] [(.int c0), (.int (0 : Int32)), (.ref b50), (.ref b50), (.ref b49), (.ref b49)]))
        have cp52 := V_50
        obtain ⟨cl_51, Ar_51, ck_51, Sz_51, Ng_51, Hs_51, Gs_51⟩ := cp52
        have hin_51 : ¬ ((0 : Int32) < 0 ∨ cl_51.slots.size ≤ ((0 : Int32)).toNatClampNeg) := inb_of Sz_51 ⟨by decide, by decide⟩
        obtain ⟨T_51, h_51, X_51, e_51, W_51, st_51⟩ := stC X_50 hx hZ e_50 Ar_51 (j := (0 : Int32)) hin_51 (g := (mkF m 69 #[.val (.int p1), .val (.int c0), .val (.int c1), .val (.int c2)] [(.int c0), (.int (0 : Int32)), (.ref b50), (.ref b50), (.ref b49), (.ref b49)])) rfl rfl (hb hby d_method_3_code_69)
        refine Go.step st_51 ?_
        have N_51 := Fr.snoc X_51 N0 g_b50
        have C_51 := CHr.wr W_51 (Safe.arv hZ.alike V_50 (by decide)) C_50.1
        have CR_51 := CHr.trans CR_50 C_51
        have le_51 : h_50.size ≤ h_51.size := Nat.le_of_eq W_51.size.symm
        have KP_51 := KP_50.wr W_51 (Or.inr sz_b50)
        have O_51 := O_50.wr W_51 g_b50
        have V_51 : Arv Z h_51 b50 k_50 .char (3 : Int32) [(.int c0), (.int (0 : Int32)), (.int (0 : Int32))] (.int (0 : Int32)) := by
          have q := Arv.set Ar_51 ck_51 Sz_51 Ng_51 Hs_51 Gs_51 (fits_nar_char _) W_51 0 rfl (Nat.le_of_ble_eq_true rfl)
          rw [nar_lat l_c0] at q; exact q
        show Go p e below _ (T_51.setTop (mkF m 70 #[.val (.int p1), .val (.int c0), .val (.int c1), .val (.int c2)] [(.ref b50), (.ref b49), (.ref b49)]))
        refine Go.step (fun _ k => XS.dup X_51.here hx rfl (hb hby d_method_3_code_70) rfl rfl k) ?_
        show Go p e below _ (T_51.setTop (mkF m 71 #[.val (.int p1), .val (.int c0), .val (.int c1), .val (.int c2)] [(.ref b50), (.ref b50), (.ref b49), (.ref b49)]))
        refine Go.step (fun _ k => XS.iconst X_51.here hx rfl (hb hby d_method_3_code_71) k) ?_
        show Go p e below _ (T_51.setTop (mkF m 72 #[.val (.int p1), .val (.int c0), .val (.int c1), .val (.int c2)] [(.int (1 : Int32)), (.ref b50), (.ref b50), (.ref b49), (.ref b49)]))
        refine Go.step (fun _ k => XS.iloadN X_51.here hx rfl (hb hby d_method_3_code_72) rfl  k) ?_
        show Go p e below _ (T_51.setTop (mkF m 73 #[.val (.int p1), .val (.int c0), .val (.int c1), .val (.int c2)] [(.int c1), (.int (1 : Int32)), (.ref b50), (.ref b50), (.ref b49), (.ref b49)]))
        have cp54 := V_51
        obtain ⟨cl_53, Ar_53, ck_53, Sz_53, Ng_53, Hs_53, Gs_53⟩ := cp54
        have hin_53 : ¬ ((1 : Int32) < 0 ∨ cl_53.slots.size ≤ ((1 : Int32)).toNatClampNeg) := inb_of Sz_53 ⟨by decide, by decide⟩
        obtain ⟨T_53, h_53, X_53, e_53, W_53, st_53⟩ := stC X_51 hx hZ e_51 Ar_53 (j := (1 : Int32)) hin_53 (g := (mkF m 73 #[.val (.int p1), .val (.int c0), .val (.int c1), .val (.int c2)] [(.int c1), (.int (1 : Int32)), (.ref b50), (.ref b50), (.ref b49), (.ref b49)])) rfl rfl (hb hby d_method_3_code_73)
        refine Go.step st_53 ?_
        have N_53 := Fr.snoc X_53 N_51 g_b50
        have C_53 := CHr.wr W_53 (Safe.arv hZ.alike V_51 (by decide)) C_51.1
        have CR_53 := CHr.trans CR_51 C_53
        have le_53 : h_51.size ≤ h_53.size := Nat.le_of_eq W_53.size.symm
        have KP_53 := KP_51.wr W_53 (Or.inr sz_b50)
        have O_53 := O_51.wr W_53 g_b50
        have V_53 : Arv Z h_53 b50 k_50 .char (3 : Int32) [(.int c0), (.int c1), (.int (0 : Int32))] (.int (0 : Int32)) := by
          have q := Arv.set Ar_53 ck_53 Sz_53 Ng_53 Hs_53 Gs_53 (fits_nar_char _) W_53 1 rfl (Nat.le_of_ble_eq_true rfl)
          rw [nar_lat l_c1] at q; exact q
        show Go p e below _ (T_53.setTop (mkF m 74 #[.val (.int p1), .val (.int c0), .val (.int c1), .val (.int c2)] [(.ref b50), (.ref b49), (.ref b49)]))
        refine Go.step (fun _ k => XS.dup X_53.here hx rfl (hb hby d_method_3_code_74) rfl rfl k) ?_
        show Go p e below _ (T_53.setTop (mkF m 75 #[.val (.int p1), .val (.int c0), .val (.int c1), .val (.int c2)] [(.ref b50), (.ref b50), (.ref b49), (.ref b49)]))
        refine Go.step (fun _ k => XS.iconst X_53.here hx rfl (hb hby d_method_3_code_75) k) ?_
        show Go p e below _ (T_53.setTop (mkF m 76 #[.val (.int p1), .val (.int c0), .val (.int c1), .val (.int c2)] [(.int (2 : Int32)), (.ref b50), (.ref b50), (.ref b49), (.ref b49)]))
        refine Go.step (fun _ k => XS.iloadN X_53.here hx rfl (hb hby d_method_3_code_76) rfl  k) ?_
        show Go p e below _ (T_53.setTop (mkF m 77 #[.val (.int p1), .val (.int c0), .val (.int c1), .val (.int c2)] [(.int c2), (.int (2 : Int32)), (.ref b50), (.ref b50), (.ref b49), (.ref b49)]))
        have cp56 := V_53
        obtain ⟨cl_55, Ar_55, ck_55, Sz_55, Ng_55, Hs_55, Gs_55⟩ := cp56
        have hin_55 : ¬ ((2 : Int32) < 0 ∨ cl_55.slots.size ≤ ((2 : Int32)).toNatClampNeg) := inb_of Sz_55 ⟨by decide, by decide⟩
        obtain ⟨T_55, h_55, X_55, e_55, W_55, st_55⟩ := stC X_53 hx hZ e_53 Ar_55 (j := (2 : Int32)) hin_55 (g := (mkF m 77 #[.val (.int p1), .val (.int c0), .val (.int c1), .val (.int c2)] [(.int c2), (.int (2 : Int32)), (.ref b50), (.ref b50), (.ref b49), (.ref b49)])) rfl rfl (hb hby d_method_3_code_77)
        refine Go.step st_55 ?_
        have N_55 := Fr.snoc X_55 N_53 g_b50
        have C_55 := CHr.wr W_55 (Safe.arv hZ.alike V_53 (by decide)) C_53.1
        have CR_55 := CHr.trans CR_53 C_55
        have le_55 : h_53.size ≤ h_55.size := Nat.le_of_eq W_55.size.symm
        have KP_55 := KP_53.wr W_55 (Or.inr sz_b50)
        have O_55 := O_53.wr W_55 g_b50
        have V_55 : Arv Z h_55 b50 k_50 .char (3 : Int32) [(.int c0), (.int c1), (.int c2)] (.int (0 : Int32)) := by
          have q := Arv.set Ar_55 ck_55 Sz_55 Ng_55 Hs_55 Gs_55 (fits_nar_char _) W_55 2 rfl (Nat.le_of_ble_eq_true rfl)
          rw [nar_lat l_c2] at q; exact q
        show Go p e below _ (T_55.setTop (mkF m 78 #[.val (.int p1), .val (.int c0), .val (.int c1), .val (.int c2)] [(.ref b50), (.ref b49), (.ref b49)]))
        have f57 : Exa Z h_55 b49 "java/lang/String" := ((((A_49.ext E_50).wr W_51).wr W_53).wr W_55)
        have f58 : Fld Z h_55 b49 "java/lang/String" "value" "[B" .null := ((((F_49_34.ext E_50).other W_51 (Or.inl (Nat.ne_of_lt (Nat.lt_of_lt_of_le A_49.lt (Nat.le_trans (Nat.le_refl _) ge_50))))).other W_53 (Or.inl (Nat.ne_of_lt (Nat.lt_of_lt_of_le A_49.lt (Nat.le_trans (Nat.le_refl _) ge_50))))).other W_55 (Or.inl (Nat.ne_of_lt (Nat.lt_of_lt_of_le A_49.lt (Nat.le_trans (Nat.le_refl _) ge_50)))))
        have f59 : Fld Z h_55 b49 "java/lang/String" "coder" "B" (.int (0 : Int32)) := ((((F_49_32.ext E_50).other W_51 (Or.inl (Nat.ne_of_lt (Nat.lt_of_lt_of_le A_49.lt (Nat.le_trans (Nat.le_refl _) ge_50))))).other W_53 (Or.inl (Nat.ne_of_lt (Nat.lt_of_lt_of_le A_49.lt (Nat.le_trans (Nat.le_refl _) ge_50))))).other W_55 (Or.inl (Nat.ne_of_lt (Nat.lt_of_lt_of_le A_49.lt (Nat.le_trans (Nat.le_refl _) ge_50)))))
        have hp60 : ∀ c ∈ ([c0, c1, c2] : List Int32), ¬ c < 0 ∧ ¬ (255 : Int32) < c := (latc l_c0 (latc l_c1 (latc l_c2 lat0)))
        obtain ⟨v_61, T_61, L_61, X_61, hQ_61, st_61⟩ := goC X_55 hx hZ (y := ({ cls := "java/lang/String", name := "<init>", desc := "([C)V" } : Jvm.MethodName)) hown rfl (wd_9 hw) (wd_10 hw) (wd_11 hw) (by decide) (StrChars.Road.backV (W := 1) hZ (sw_words hw) (kI := 4) (wd_6 hw) (cs := ([c0, c1, c2] : List Int32)) (bs := ([c0, c1, c2] : List Int32).map (fun c => c.toInt8.toInt32)) (n := 3) g_b49 (Nat.le_trans Z0 KP_55.1) f57 f58 f59 V_55 (S_cs.ext O_55.2) n_cs rfl rfl (by decide) (by decide) hp60 rfl (by decide) (by decide)) e_55 (g := (mkF m 78 #[.val (.int p1), .val (.int c0), .val (.int c1), .val (.int c2)] [(.ref b50), (.ref b49), (.ref b49)])) rfl (by rw [hml]; rfl) (a := b49) (argsL := [(.ref b50)]) (rest := [(.ref b49)]) rfl (lenOf pd_1 rfl) rfl (by show 2 * 0 + _ ≤ _; exact Nat.le_of_eq rfl) (hb hby d_method_3_code_78) (by decide) (by decide)
        obtain ⟨rfl, Nq_61, K_61, Ex_61, Fc_61, t_61, kb_61, -, gt_61, -, Fv_61, Av_61⟩ := hQ_61
        have N_61 := Fr.app N_55 Nq_61
        have C_61 := CHr.keep K_61 (sfS (CHr.safe (CHr.trans (CHr.trans (CHr.trans C_50 C_51) C_53) C_55) A_49.lt Sf_b49) sf0) C_55.1
        have CR_61 := CHr.trans CR_55 C_61
        have le_61 : h_55.size ≤ T_61.heap.size := K_61.1
        have KP_61 := KP_55.trans K_61 (allS (Or.inr sz_b49) all0)
        have O_61 := O_55.keep K_61 (allS g_b49 all0)
        have Sx_61 : Str Z (T_61.heap).size (T_61.heap) b49 ([c0, c1, c2] : List Int32) := ⟨t_61, kb_61, Ex_61.lt, Av_61.lt, Ex_61, Fv_61, Fc_61, Av_61, hp60, Nat.le_of_ble_eq_true rfl⟩
        refine Go.step st_61 ?_
        show Go p e below _ (T_61.setTop (mkF m 81 #[.val (.int p1), .val (.int c0), .val (.int c1), .val (.int c2)] [(.ref b49)]))
        exact Go.retVW X_61 rfl hS0 (Nat.le_trans hk0 (Nat.le_trans le_49 (Nat.le_trans le_50 (Nat.le_trans le_51 (Nat.le_trans le_53 (Nat.le_trans le_55 le_61)))))) hZ hEL hh0 CR_61 hx hlk hret rfl (Or.inr (Or.inr (Or.inr (Or.inr ⟨rfl, rfl, rfl⟩)))) (hb hby d_method_3_code_81) (by decide) (by decide) (by exact ⟨b49, rfl, N_61, KP_61, sz_b49, (by rw [mkL, if_neg u0, if_neg u1, if_neg u2]; exact Sx_61)⟩)
--@E
--@C canEncode
def Q_canEncode (Z : State) (zc : Int32) (kd0 : Addr) (kd1 : Addr) (kd2 : Addr) (kd3 : Addr) (kd4 : Addr) (kd5 : Addr) (kd6 : Addr) (kd7 : Addr) (kd8 : Addr) (kd9 : Addr) (kd10 : Addr) (kd11 : Addr) (kd12 : Addr) (kd13 : Addr) (kd14 : Addr) (kd15 : Addr) (kd16 : Addr) (kd17 : Addr) (p1 : Int32) (h0 : Heap) (n0 : Nat) (v : Option Value) (h : Heap) (L : List Loc) : Prop := v = some (.int (1 : Int32)) ∧ Fr n0 L ∧ h = h0
set_option maxRecDepth 65536 in
set_option maxHeartbeats 40000000 in
theorem rm_canEncode (l : Launch) (Z : State) (a0 : Array Value) (hw : ∀ d ∈ tables_1, d.before a0 Z = true) (zc : Int32) (kd0 : Addr) (kd1 : Addr) (kd2 : Addr) (kd3 : Addr) (kd4 : Addr) (kd5 : Addr) (kd6 : Addr) (kd7 : Addr) (kd8 : Addr) (kd9 : Addr) (kd10 : Addr) (kd11 : Addr) (kd12 : Addr) (kd13 : Addr) (kd14 : Addr) (kd15 : Addr) (kd16 : Addr) (kd17 : Addr) (p1 : Int32) (h0 : Heap) (n0 : Nat) (Z0 : n0 ≤ h0.size) (l_p1 : (¬ p1 < 0 ∧ ¬ (255 : Int32) < p1)) (hSt : St Z zc kd0 kd1 kd2 kd3 kd4 kd5 kd6 kd7 kd8 kd9 kd10 kd11 kd12 kd13 kd14 kd15 kd16 kd17) (hO : Old Z n0 h0) :
    CN l Z ({ cls := "java/lang/StringLatin1", name := "canEncode", desc := "(C)Z" } : Jvm.MethodName) [(Jvm.Cond.code ({ cls := "java/lang/StringLatin1", name := "canEncode", desc := "(C)Z" } : Jvm.MethodName) jdk_43_method_3_code (1 : Nat) (Option.some Jvm.ClassFile.FieldType.boolean))] ({ frames := 0, cells := 0, slots := 0, locals := 0 } : Room) #[(.int p1)] h0 (Q_canEncode Z zc kd0 kd1 kd2 kd3 kd4 kd5 kd6 kd7 kd8 kd9 kd10 kd11 kd12 kd13 kd14 kd15 kd16 kd17 p1 h0 n0) := by
  refine CN.of (L0 := #[.val (.int p1)]) (plainFor_of_name pn_2) (fun m => by first | (simp [entryFrame, mkF, argsToLocals, Value.category]; done) | rfl) ?_
  intro p e s m below meth c s₁ hx hby hml hret hlk hZ hown hnm X0 e0
  have N0 := Fr.nil n0
  have KP0 := Keep.refl h0 []
  have hSt_ := hSt
  obtain ⟨S_cs, n_cs, S_kd0, S_kd1, S_kd2, S_kd3, S_kd4, S_kd5, S_kd6, S_kd7, S_kd8, S_kd9, S_kd10, S_kd11, S_kd12, S_kd13, S_kd14, S_kd15, S_kd16, S_kd17⟩ := hSt_
  show Go p e below _ (s₁.setTop (mkF m 0 #[.val (.int p1)] []))
  refine Go.step (fun _ k => XS.iloadN X0.here hx rfl (hb hby d_jdk_43_method_3_code_0) rfl  k) ?_
  show Go p e below _ (s₁.setTop (mkF m 1 #[.val (.int p1)] [(.int p1)]))
  refine Go.step (fun _ k => XS.sipush X0.here hx rfl (hb hby d_jdk_43_method_3_code_1) k) ?_
  show Go p e below _ (s₁.setTop (mkF m 4 #[.val (.int p1)] [(.int (255 : Int32)), (.int p1)]))
  refine Go.step (fun _ k => XS.icmpNo X0.here hx rfl (hb hby d_jdk_43_method_3_code_4) rfl (flt (l_p1.2 : ¬ ((255 : Int32) < p1))).2.2.1 k) ?_
  show Go p e below _ (s₁.setTop (mkF m 7 #[.val (.int p1)] []))
  refine Go.step (fun _ k => XS.iconst X0.here hx rfl (hb hby d_jdk_43_method_3_code_7) k) ?_
  show Go p e below _ (s₁.setTop (mkF m 8 #[.val (.int p1)] [(.int (1 : Int32))]))
  refine Go.step (fun _ k => XS.goto X0.here hx rfl (pc0 := 8) (pc' := 12) rfl (hb hby d_jdk_43_method_3_code_8) (by decide) (by decide) k) ?_
  show Go p e below _ (s₁.setTop (mkF m 12 #[.val (.int p1)] [(.int (1 : Int32))]))
  exact Go.retV X0 hx hlk hret rfl (Or.inl ⟨rfl, Or.inr (Or.inl rfl), _, rfl⟩) (hb hby d_jdk_43_method_3_code_12) (by decide) (by decide) (by rw [e0]; exact ⟨rfl, N0, rfl⟩)
--@E
--@C toBytes
def Q_toBytes (Z : State) (zc : Int32) (kd0 : Addr) (kd1 : Addr) (kd2 : Addr) (kd3 : Addr) (kd4 : Addr) (kd5 : Addr) (kd6 : Addr) (kd7 : Addr) (kd8 : Addr) (kd9 : Addr) (kd10 : Addr) (kd11 : Addr) (kd12 : Addr) (kd13 : Addr) (kd14 : Addr) (kd15 : Addr) (kd16 : Addr) (kd17 : Addr) (p1 : Int32) (h0 : Heap) (n0 : Nat) (v : Option Value) (h : Heap) (L : List Loc) : Prop := ∃ (r : Addr) (kr : ClassId), v = some (.ref r) ∧ Fr n0 L ∧ Keep h0 h [] ∧ h0.size ≤ r ∧ Arv Z h r kr .byte (1 : Int32) [(.int p1.toInt8.toInt32)] (.int (0 : Int32))
set_option maxRecDepth 65536 in
set_option maxHeartbeats 40000000 in
theorem rm_toBytes (l : Launch) (Z : State) (a0 : Array Value) (hw : ∀ d ∈ tables_1, d.before a0 Z = true) (zc : Int32) (kd0 : Addr) (kd1 : Addr) (kd2 : Addr) (kd3 : Addr) (kd4 : Addr) (kd5 : Addr) (kd6 : Addr) (kd7 : Addr) (kd8 : Addr) (kd9 : Addr) (kd10 : Addr) (kd11 : Addr) (kd12 : Addr) (kd13 : Addr) (kd14 : Addr) (kd15 : Addr) (kd16 : Addr) (kd17 : Addr) (p1 : Int32) (h0 : Heap) (n0 : Nat) (Z0 : n0 ≤ h0.size) (hSt : St Z zc kd0 kd1 kd2 kd3 kd4 kd5 kd6 kd7 kd8 kd9 kd10 kd11 kd12 kd13 kd14 kd15 kd16 kd17) (hO : Old Z n0 h0) :
    CN l Z ({ cls := "java/lang/StringLatin1", name := "toBytes", desc := "(C)[B" } : Jvm.MethodName) [(Jvm.Cond.code ({ cls := "java/lang/StringLatin1", name := "toBytes", desc := "(C)[B" } : Jvm.MethodName) jdk_43_method_46_code (1 : Nat) (Option.some (Jvm.ClassFile.FieldType.array Jvm.ClassFile.FieldType.byte)))] ({ frames := 0, cells := 1, slots := 1, locals := 0 } : Room) #[(.int p1)] h0 (Q_toBytes Z zc kd0 kd1 kd2 kd3 kd4 kd5 kd6 kd7 kd8 kd9 kd10 kd11 kd12 kd13 kd14 kd15 kd16 kd17 p1 h0 n0) := by
  refine CN.of (L0 := #[.val (.int p1)]) (plainFor_of_name pn_2) (fun m => by first | (simp [entryFrame, mkF, argsToLocals, Value.category]; done) | rfl) ?_
  intro p e s m below meth c s₁ hx hby hml hret hlk hZ hown hnm X0 e0
  have N0 := Fr.nil n0
  have KP0 := Keep.refl h0 []
  have hSt_ := hSt
  obtain ⟨S_cs, n_cs, S_kd0, S_kd1, S_kd2, S_kd3, S_kd4, S_kd5, S_kd6, S_kd7, S_kd8, S_kd9, S_kd10, S_kd11, S_kd12, S_kd13, S_kd14, S_kd15, S_kd16, S_kd17⟩ := hSt_
  show Go p e below _ (s₁.setTop (mkF m 0 #[.val (.int p1)] []))
  refine Go.step (fun _ k => XS.iconst X0.here hx rfl (hb hby d_jdk_43_method_46_code_0) k) ?_
  show Go p e below _ (s₁.setTop (mkF m 1 #[.val (.int p1)] [(.int (1 : Int32))]))
  obtain ⟨T_62, h_62, k_62, X_62, e_62, E_62, A_62, st_62⟩ := newP X0 hx hZ (aty := .byte) (wd_24 hw) e0 (g := (mkF m 1 #[.val (.int p1)] [(.int (1 : Int32))])) rfl (hb hby d_jdk_43_method_46_code_1) rfl (by decide) (cap := 1) (by decide) (by decide) (by decide) (by decide)
  obtain ⟨b62, q_62⟩ : ∃ z, z = h0.size := ⟨_, rfl⟩
  rw [← q_62] at A_62 st_62
  refine Go.step st_62 ?_
  have le_62 : h0.size ≤ h_62.size := E_62.1
  have KP_62 := KP0.ext E_62
  have O_62 := hO.ext E_62
  have ge_62 : h0.size ≤ b62 := Nat.le_of_eq q_62.symm
  have sz_b62 : h0.size ≤ b62 := Nat.le_trans (Nat.le_refl _) ge_62
  have g_b62 : n0 ≤ b62 := Nat.le_trans Z0 sz_b62
  have V_62 : Arv Z h_62 b62 k_62 .byte (1 : Int32) [(.int (0 : Int32))] (.int (0 : Int32)) := (Arv.new A_62 (by decide)).pad (pad_rep [] (.int (0 : Int32)) 1)
  show Go p e below _ (T_62.setTop (mkF m 3 #[.val (.int p1)] [(.ref b62)]))
  refine Go.step (fun _ k => XS.dup X_62.here hx rfl (hb hby d_jdk_43_method_46_code_3) rfl rfl k) ?_
  show Go p e below _ (T_62.setTop (mkF m 4 #[.val (.int p1)] [(.ref b62), (.ref b62)]))
  refine Go.step (fun _ k => XS.iconst X_62.here hx rfl (hb hby d_jdk_43_method_46_code_4) k) ?_
  show Go p e below _ (T_62.setTop (mkF m 5 #[.val (.int p1)] [(.int (0 : Int32)), (.ref b62), (.ref b62)]))
  refine Go.step (fun _ k => XS.iloadN X_62.here hx rfl (hb hby d_jdk_43_method_46_code_5) rfl  k) ?_
  show Go p e below _ (T_62.setTop (mkF m 6 #[.val (.int p1)] [(.int p1), (.int (0 : Int32)), (.ref b62), (.ref b62)]))
  refine Go.step (fun _ k => XS.i2b X_62.here hx rfl (hb hby d_jdk_43_method_46_code_6) rfl k) ?_
  show Go p e below _ (T_62.setTop (mkF m 7 #[.val (.int p1)] [(.int p1.toInt8.toInt32), (.int (0 : Int32)), (.ref b62), (.ref b62)]))
  have cp64 := V_62
  obtain ⟨cl_63, Ar_63, ck_63, Sz_63, Ng_63, Hs_63, Gs_63⟩ := cp64
  have hin_63 : ¬ ((0 : Int32) < 0 ∨ cl_63.slots.size ≤ ((0 : Int32)).toNatClampNeg) := inb_of Sz_63 ⟨by decide, by decide⟩
  obtain ⟨T_63, h_63, X_63, e_63, W_63, st_63⟩ := stB X_62 hx hZ e_62 Ar_63 (j := (0 : Int32)) hin_63 (g := (mkF m 7 #[.val (.int p1)] [(.int p1.toInt8.toInt32), (.int (0 : Int32)), (.ref b62), (.ref b62)])) rfl rfl (hb hby d_jdk_43_method_46_code_7)
  refine Go.step st_63 ?_
  have N_63 := Fr.snoc X_63 N0 g_b62
  have le_63 : h_62.size ≤ h_63.size := Nat.le_of_eq W_63.size.symm
  have KP_63 := KP_62.wr W_63 (Or.inr sz_b62)
  have O_63 := O_62.wr W_63 g_b62
  have V_63 : Arv Z h_63 b62 k_62 .byte (1 : Int32) [(.int p1.toInt8.toInt32)] (.int (0 : Int32)) := by
    have q := Arv.set Ar_63 ck_63 Sz_63 Ng_63 Hs_63 Gs_63 (fits_nar_byte _) W_63 0 rfl (Nat.le_of_ble_eq_true rfl)
    rw [i8_i8] at q; exact q
  show Go p e below _ (T_63.setTop (mkF m 8 #[.val (.int p1)] [(.ref b62)]))
  exact Go.retV X_63 hx hlk hret rfl (Or.inr (Or.inr (Or.inr (Or.inr ⟨rfl, rfl, rfl⟩)))) (hb hby d_jdk_43_method_46_code_8) (by decide) (by decide) (by rw [e_63]; exact ⟨b62, k_62, rfl, N_63, KP_63, sz_b62, V_63⟩)
--@E
--@C initBB
def Q_initBB (Z : State) (zc : Int32) (kd0 : Addr) (kd1 : Addr) (kd2 : Addr) (kd3 : Addr) (kd4 : Addr) (kd5 : Addr) (kd6 : Addr) (kd7 : Addr) (kd8 : Addr) (kd9 : Addr) (kd10 : Addr) (kd11 : Addr) (kd12 : Addr) (kd13 : Addr) (kd14 : Addr) (kd15 : Addr) (kd16 : Addr) (kd17 : Addr) (a1 : Addr) (a2 : Addr) (h0 : Heap) (n0 : Nat) (v : Option Value) (h : Heap) (L : List Loc) : Prop := v = none ∧ Fr n0 L ∧ Keep h0 h [a1] ∧ Exa Z h a1 "java/lang/String" ∧ Fld Z h a1 "java/lang/String" "value" "[B" (.ref a2) ∧ Fld Z h a1 "java/lang/String" "coder" "B" (.int (0 : Int32))
set_option maxRecDepth 65536 in
set_option maxHeartbeats 40000000 in
theorem rm_initBB (l : Launch) (Z : State) (a0 : Array Value) (hw : ∀ d ∈ tables_1, d.before a0 Z = true) (zc : Int32) (kd0 : Addr) (kd1 : Addr) (kd2 : Addr) (kd3 : Addr) (kd4 : Addr) (kd5 : Addr) (kd6 : Addr) (kd7 : Addr) (kd8 : Addr) (kd9 : Addr) (kd10 : Addr) (kd11 : Addr) (kd12 : Addr) (kd13 : Addr) (kd14 : Addr) (kd15 : Addr) (kd16 : Addr) (kd17 : Addr) (a1 : Addr) (a2 : Addr) (h0 : Heap) (n0 : Nat) (Z0 : n0 ≤ h0.size) (E_a1 : Exa Z h0 a1 "java/lang/String") (F_a1v : Fld Z h0 a1 "java/lang/String" "value" "[B" .null) (F_a1c : Fld Z h0 a1 "java/lang/String" "coder" "B" (.int (0 : Int32))) (g_a1 : n0 ≤ a1) (hSt : St Z zc kd0 kd1 kd2 kd3 kd4 kd5 kd6 kd7 kd8 kd9 kd10 kd11 kd12 kd13 kd14 kd15 kd16 kd17) (hO : Old Z n0 h0) :
    CN l Z ({ cls := "java/lang/String", name := "<init>", desc := "([BB)V" } : Jvm.MethodName) [(Jvm.Cond.code ({ cls := "java/lang/String", name := "<init>", desc := "([BB)V" } : Jvm.MethodName) jdk_42_method_151_code (3 : Nat) (Option.none : Option Jvm.ClassFile.FieldType))] ({ frames := 1, cells := 0, slots := 0, locals := 12 } : Room) #[(.ref a1), (.ref a2), (.int (0 : Int32))] h0 (Q_initBB Z zc kd0 kd1 kd2 kd3 kd4 kd5 kd6 kd7 kd8 kd9 kd10 kd11 kd12 kd13 kd14 kd15 kd16 kd17 a1 a2 h0 n0) := by
  refine CN.of (L0 := #[.val (.ref a1), .val (.ref a2), .val (.int (0 : Int32))]) (plainFor_of_name pn_0) (fun m => by first | (simp [entryFrame, mkF, argsToLocals, Value.category]; done) | rfl) ?_
  intro p e s m below meth c s₁ hx hby hml hret hlk hZ hown hnm X0 e0
  have N0 := Fr.nil n0
  have KP0 := Keep.refl h0 [a1]
  have hSt_ := hSt
  obtain ⟨S_cs, n_cs, S_kd0, S_kd1, S_kd2, S_kd3, S_kd4, S_kd5, S_kd6, S_kd7, S_kd8, S_kd9, S_kd10, S_kd11, S_kd12, S_kd13, S_kd14, S_kd15, S_kd16, S_kd17⟩ := hSt_
  show Go p e below _ (s₁.setTop (mkF m 0 #[.val (.ref a1), .val (.ref a2), .val (.int (0 : Int32))] []))
  refine Go.step (fun _ k => XS.aloadN X0.here hx rfl (hb hby d_jdk_42_method_151_code_0) rfl rfl k) ?_
  show Go p e below _ (s₁.setTop (mkF m 1 #[.val (.ref a1), .val (.ref a2), .val (.int (0 : Int32))] [(.ref a1)]))
  obtain ⟨T_65, X_65, e_65, st_65⟩ := initO X0 hx hZ hown (wd_16 hw) (wd_17 hw) (wd_18 hw) e0 (g := (mkF m 1 #[.val (.ref a1), .val (.ref a2), .val (.int (0 : Int32))] [(.ref a1)])) rfl (by rw [hml]; rfl) rfl (hb hby d_jdk_42_method_151_code_1) (by decide) (W := 0) (by show 2 * 0 + _ ≤ _; exact Nat.le_of_eq rfl) (by decide)
  refine Go.step st_65 ?_
  show Go p e below _ (T_65.setTop (mkF m 4 #[.val (.ref a1), .val (.ref a2), .val (.int (0 : Int32))] []))
  refine Go.step (fun _ k => XS.aloadN X_65.here hx rfl (hb hby d_jdk_42_method_151_code_4) rfl rfl k) ?_
  show Go p e below _ (T_65.setTop (mkF m 5 #[.val (.ref a1), .val (.ref a2), .val (.int (0 : Int32))] [(.ref a1)]))
  refine Go.step (fun _ k => XS.aloadN X_65.here hx rfl (hb hby d_jdk_42_method_151_code_5) rfl rfl k) ?_
  show Go p e below _ (T_65.setTop (mkF m 6 #[.val (.ref a1), .val (.ref a2), .val (.int (0 : Int32))] [(.ref a2), (.ref a1)]))
  obtain ⟨T_66, h_66, X_66, e_66, W_66, st_66⟩ := putF X_65 hx hZ hown (host := "") (Or.inl (wd_33 hw)) Via.refl e_65 F_a1v E_a1 (Or.inr ⟨(wd_34 hw), rfl, hnm⟩) (wd_6 hw) (ty := (.array .byte)) pf_0 rfl rfl (g := (mkF m 6 #[.val (.ref a1), .val (.ref a2), .val (.int (0 : Int32))] [(.ref a2), (.ref a1)])) rfl rfl (hb hby d_jdk_42_method_151_code_6)
  refine Go.step st_66 ?_
  have N_66 := Fr.snoc X_66 N0 g_a1
  have le_66 : h0.size ≤ h_66.size := Nat.le_of_eq W_66.size.symm
  have KP_66 := KP0.wr W_66 (Or.inl (List.mem_of_getElem? (i := 0) rfl))
  have O_66 := hO.wr W_66 g_a1
  have F_66 : Fld Z h_66 a1 "java/lang/String" "value" "[B" (.ref a2) := F_a1v.same W_66
  show Go p e below _ (T_66.setTop (mkF m 9 #[.val (.ref a1), .val (.ref a2), .val (.int (0 : Int32))] []))
  refine Go.step (fun _ k => XS.aloadN X_66.here hx rfl (hb hby d_jdk_42_method_151_code_9) rfl rfl k) ?_
  show Go p e below _ (T_66.setTop (mkF m 10 #[.val (.ref a1), .val (.ref a2), .val (.int (0 : Int32))] [(.ref a1)]))
  refine Go.step (fun _ k => XS.iloadN X_66.here hx rfl (hb hby d_jdk_42_method_151_code_10) rfl  k) ?_
  show Go p e below _ (T_66.setTop (mkF m 11 #[.val (.ref a1), .val (.ref a2), .val (.int (0 : Int32))] [(.int (0 : Int32)), (.ref a1)]))
  have f67 : Exa Z h_66 a1 "java/lang/String" := (E_a1.wr W_66)
  have f68 : Fld Z h_66 a1 "java/lang/String" "coder" "B" (.int (0 : Int32)) := (F_a1c.other W_66 (Or.inr (sn_0 hw)))
  obtain ⟨T_69, h_69, X_69, e_69, W_69, st_69⟩ := putFN X_66 hx hZ hown (wd_31 hw) Via.refl e_66 f68 f67 (Or.inr ⟨(wd_32 hw), rfl, hnm⟩) (wd_6 hw) (ty := .byte) (v' := (.int (0 : Int32))) pf_1 rfl (by decide) (g := (mkF m 11 #[.val (.ref a1), .val (.ref a2), .val (.int (0 : Int32))] [(.int (0 : Int32)), (.ref a1)])) rfl rfl (hb hby d_jdk_42_method_151_code_11)
  refine Go.step st_69 ?_
  have N_69 := Fr.snoc X_69 N_66 g_a1
  have le_69 : h_66.size ≤ h_69.size := Nat.le_of_eq W_69.size.symm
  have KP_69 := KP_66.wr W_69 (Or.inl (List.mem_of_getElem? (i := 0) rfl))
  have O_69 := O_66.wr W_69 g_a1
  have F_69 : Fld Z h_69 a1 "java/lang/String" "coder" "B" (.int (0 : Int32)) := f68.same W_69
  show Go p e below _ (T_69.setTop (mkF m 14 #[.val (.ref a1), .val (.ref a2), .val (.int (0 : Int32))] []))
  have f70 : Exa Z h_69 a1 "java/lang/String" := (f67.wr W_69)
  have f71 : Fld Z h_69 a1 "java/lang/String" "value" "[B" (.ref a2) := (F_66.other W_69 (Or.inr (sn_1 hw)))
  exact Go.ret0 X_69 hx hlk hret (hb hby d_jdk_42_method_151_code_14) (by decide) (by decide) (by rw [e_69]; exact ⟨rfl, N_69, KP_69, f70, f71, F_69⟩)
--@E
--@C valueOf
def Q_valueOf (Z : State) (zc : Int32) (kd0 : Addr) (kd1 : Addr) (kd2 : Addr) (kd3 : Addr) (kd4 : Addr) (kd5 : Addr) (kd6 : Addr) (kd7 : Addr) (kd8 : Addr) (kd9 : Addr) (kd10 : Addr) (kd11 : Addr) (kd12 : Addr) (kd13 : Addr) (kd14 : Addr) (kd15 : Addr) (kd16 : Addr) (kd17 : Addr) (p1 : Int32) (h0 : Heap) (n0 : Nat) (v : Option Value) (h : Heap) (L : List Loc) : Prop := ∃ (r : Addr), v = some (.ref r) ∧ Fr n0 L ∧ Keep h0 h [] ∧ h0.size ≤ r ∧ Str Z h.size h r ([p1] : List Int32)
set_option maxRecDepth 65536 in
set_option maxHeartbeats 40000000 in
theorem rm_valueOf (l : Launch) (Z : State) (a0 : Array Value) (hw : ∀ d ∈ tables_1, d.before a0 Z = true) (zc : Int32) (kd0 : Addr) (kd1 : Addr) (kd2 : Addr) (kd3 : Addr) (kd4 : Addr) (kd5 : Addr) (kd6 : Addr) (kd7 : Addr) (kd8 : Addr) (kd9 : Addr) (kd10 : Addr) (kd11 : Addr) (kd12 : Addr) (kd13 : Addr) (kd14 : Addr) (kd15 : Addr) (kd16 : Addr) (kd17 : Addr) (p1 : Int32) (h0 : Heap) (n0 : Nat) (Z0 : n0 ≤ h0.size) (l_p1 : (¬ p1 < 0 ∧ ¬ (255 : Int32) < p1)) (hSt : St Z zc kd0 kd1 kd2 kd3 kd4 kd5 kd6 kd7 kd8 kd9 kd10 kd11 kd12 kd13 kd14 kd15 kd16 kd17) (hO : Old Z n0 h0) :
    CN l Z ({ cls := "java/lang/String", name := "valueOf", desc := "(C)Ljava/lang/String;" } : Jvm.MethodName) [(Jvm.Cond.code ({ cls := "java/lang/String", name := "valueOf", desc := "(C)Ljava/lang/String;" } : Jvm.MethodName) jdk_42_method_139_code (1 : Nat) (Option.some (Jvm.ClassFile.FieldType.object "java/lang/String")))] ({ frames := 2, cells := 2, slots := 5, locals := 27 } : Room) #[(.int p1)] h0 (Q_valueOf Z zc kd0 kd1 kd2 kd3 kd4 kd5 kd6 kd7 kd8 kd9 kd10 kd11 kd12 kd13 kd14 kd15 kd16 kd17 p1 h0 n0) := by
  refine CN.of (L0 := #[.val (.int p1)]) (plainFor_of_name pn_0) (fun m => by first | (simp [entryFrame, mkF, argsToLocals, Value.category]; done) | rfl) ?_
  intro p e s m below meth c s₁ hx hby hml hret hlk hZ hown hnm X0 e0
  have N0 := Fr.nil n0
  have KP0 := Keep.refl h0 []
  have hSt_ := hSt
  obtain ⟨S_cs, n_cs, S_kd0, S_kd1, S_kd2, S_kd3, S_kd4, S_kd5, S_kd6, S_kd7, S_kd8, S_kd9, S_kd10, S_kd11, S_kd12, S_kd13, S_kd14, S_kd15, S_kd16, S_kd17⟩ := hSt_
  show Go p e below _ (s₁.setTop (mkF m 0 #[.val (.int p1)] []))
  obtain ⟨T_72, X_72, e_72, st_72⟩ := getS2 X0 hx hZ hown (host := "") (Or.inl (wd_19 hw)) Via.refl e0 (S_cs.ext hO.2) (g := (mkF m 0 #[.val (.int p1)] [])) rfl (hb hby d_jdk_42_method_139_code_0)
  refine Go.step st_72 ?_
  show Go p e below _ (T_72.setTop (mkF m 3 #[.val (.int p1)] [(.int zc)]))
  refine Go.step (fun _ k => XS.ifNo X_72.here hx rfl (hb hby d_jdk_42_method_139_code_3) rfl ((if0 _ _).trans (feq (n_cs : ¬ (zc = (0 : Int32)))).1) k) ?_
  show Go p e below _ (T_72.setTop (mkF m 6 #[.val (.int p1)] []))
  refine Go.step (fun _ k => XS.iloadN X_72.here hx rfl (hb hby d_jdk_42_method_139_code_6) rfl  k) ?_
  show Go p e below _ (T_72.setTop (mkF m 7 #[.val (.int p1)] [(.int p1)]))
  obtain ⟨v_73, T_73, L_73, X_73, hQ_73, st_73⟩ := goS X_72 hx hZ (y := ({ cls := "java/lang/StringLatin1", name := "canEncode", desc := "(C)Z" } : Jvm.MethodName)) hown (wd_38 hw) (wd_39 hw) (wd_40 hw) (wd_41 hw) (by decide) (backOf (W := 0) (rm_canEncode l Z a0 hw zc kd0 kd1 kd2 kd3 kd4 kd5 kd6 kd7 kd8 kd9 kd10 kd11 kd12 kd13 kd14 kd15 kd16 kd17 (p1) h0 n0 (Nat.le_trans Z0 KP0.1) l_p1 hSt hO) hZ (wd_41 hw) (wd_40 hw) (by decide) (by decide)) e_72 (g := (mkF m 7 #[.val (.int p1)] [(.int p1)])) rfl (by rw [hml]; rfl) (argsL := [(.int p1)]) (rest := []) rfl (lenOf pd_2 rfl) rfl (by show 2 * 0 + _ ≤ _; exact Nat.le_of_eq rfl) (hb hby d_jdk_42_method_139_code_7) (by decide) (by decide)
  obtain ⟨rfl, Nq_73, e_73⟩ := hQ_73
  have N_73 := Fr.app N0 Nq_73
  refine Go.step st_73 ?_
  show Go p e below _ (T_73.setTop (mkF m 10 #[.val (.int p1)] [(.int (1 : Int32))]))
  refine Go.step (fun _ k => XS.ifNo X_73.here hx rfl (hb hby d_jdk_42_method_139_code_10) rfl ((if0 _ _).trans (feq ((by decide) : ¬ ((1 : Int32) = (0 : Int32)))).1) k) ?_
  show Go p e below _ (T_73.setTop (mkF m 13 #[.val (.int p1)] []))
  obtain ⟨T_74, h_74, X_74, e_74, E_74, A_74, D_74, -, st_74⟩ := newO X_73 hx hZ hown (wd_42 hw) (wd_6 hw) (wd_7 hw) e_73 (g := (mkF m 13 #[.val (.int p1)] [])) rfl (hb hby d_jdk_42_method_139_code_13) (by decide) (by decide)
  obtain ⟨b74, q_74⟩ : ∃ z, z = h0.size := ⟨_, rfl⟩
  rw [← q_74] at A_74 D_74 st_74
  refine Go.step st_74 ?_
  have le_74 : h0.size ≤ h_74.size := E_74.1
  have KP_74 := KP0.ext E_74
  have O_74 := hO.ext E_74
  have ge_74 : h0.size ≤ b74 := Nat.le_of_eq q_74.symm
  have sz_b74 : h0.size ≤ b74 := Nat.le_trans (Nat.le_refl _) ge_74
  have g_b74 : n0 ≤ b74 := Nat.le_trans Z0 sz_b74
  have F_74_32 : Fld Z h_74 b74 "java/lang/String" "coder" "B" (.int (0 : Int32)) := D_74 (Or.inr (wd_32 hw)) (ty := .byte) pf_1
  have F_74_34 : Fld Z h_74 b74 "java/lang/String" "value" "[B" .null := D_74 (Or.inr (wd_34 hw)) (ty := (.array .byte)) pf_0
  show Go p e below _ (T_74.setTop (mkF m 16 #[.val (.int p1)] [(.ref b74)]))
  refine Go.step (fun _ k => XS.dup X_74.here hx rfl (hb hby d_jdk_42_method_139_code_16) rfl rfl k) ?_
  show Go p e below _ (T_74.setTop (mkF m 17 #[.val (.int p1)] [(.ref b74), (.ref b74)]))
  refine Go.step (fun _ k => XS.iloadN X_74.here hx rfl (hb hby d_jdk_42_method_139_code_17) rfl  k) ?_
  show Go p e below _ (T_74.setTop (mkF m 18 #[.val (.int p1)] [(.int p1), (.ref b74), (.ref b74)]))
  obtain ⟨v_75, T_75, L_75, X_75, hQ_75, st_75⟩ := goS X_74 hx hZ (y := ({ cls := "java/lang/StringLatin1", name := "toBytes", desc := "(C)[B" } : Jvm.MethodName)) hown (wd_43 hw) (wd_44 hw) (wd_40 hw) (wd_45 hw) (by decide) (backOf (W := 2) (rm_toBytes l Z a0 hw zc kd0 kd1 kd2 kd3 kd4 kd5 kd6 kd7 kd8 kd9 kd10 kd11 kd12 kd13 kd14 kd15 kd16 kd17 (p1) h_74 n0 (Nat.le_trans Z0 KP_74.1) hSt O_74) hZ (wd_45 hw) (wd_40 hw) (by decide) (by decide)) e_74 (g := (mkF m 18 #[.val (.int p1)] [(.int p1), (.ref b74), (.ref b74)])) rfl (by rw [hml]; rfl) (argsL := [(.int p1)]) (rest := [(.ref b74), (.ref b74)]) rfl (lenOf pd_3 rfl) rfl (by show 2 * 0 + _ ≤ _; exact Nat.le_of_eq rfl) (hb hby d_jdk_42_method_139_code_18) (by decide) (by decide)
  obtain ⟨r_75, kr_75, rfl, Nq_75, K_75, u0_75, u1_75⟩ := hQ_75
  have N_75 := Fr.app N_73 Nq_75
  have le_75 : h_74.size ≤ T_75.heap.size := K_75.1
  have KP_75 := KP_74.trans K_75 all0
  have O_75 := O_74.keep K_75 all0
  have sz_r_75 : h0.size ≤ r_75 := Nat.le_trans le_74 u0_75
  have g_r_75 : n0 ≤ r_75 := Nat.le_trans Z0 sz_r_75
  refine Go.step st_75 ?_
  show Go p e below _ (T_75.setTop (mkF m 21 #[.val (.int p1)] [(.ref r_75), (.ref b74), (.ref b74)]))
  refine Go.step (fun _ k => XS.iconst X_75.here hx rfl (hb hby d_jdk_42_method_139_code_21) k) ?_
  show Go p e below _ (T_75.setTop (mkF m 22 #[.val (.int p1)] [(.int (0 : Int32)), (.ref r_75), (.ref b74), (.ref b74)]))
  have f76 : Exa Z T_75.heap b74 "java/lang/String" := (A_74.keep K_75)
  have f77 : Fld Z T_75.heap b74 "java/lang/String" "value" "[B" .null := (F_74_34.keep K_75 nin0)
  have f78 : Fld Z T_75.heap b74 "java/lang/String" "coder" "B" (.int (0 : Int32)) := (F_74_32.keep K_75 nin0)
  obtain ⟨v_79, T_79, L_79, X_79, hQ_79, st_79⟩ := goC X_75 hx hZ (y := ({ cls := "java/lang/String", name := "<init>", desc := "([BB)V" } : Jvm.MethodName)) hown rfl (wd_46 hw) (wd_47 hw) (wd_48 hw) (by decide) (backOf (W := 1) (rm_initBB l Z a0 hw zc kd0 kd1 kd2 kd3 kd4 kd5 kd6 kd7 kd8 kd9 kd10 kd11 kd12 kd13 kd14 kd15 kd16 kd17 (b74) (r_75) T_75.heap n0 (Nat.le_trans Z0 KP_75.1) f76 f77 f78 g_b74 hSt O_75) hZ (wd_48 hw) (wd_7 hw) (by decide) (by decide)) rfl (g := (mkF m 22 #[.val (.int p1)] [(.int (0 : Int32)), (.ref r_75), (.ref b74), (.ref b74)])) rfl (by rw [hml]; rfl) (a := b74) (argsL := [(.ref r_75), (.int (0 : Int32))]) (rest := [(.ref b74)]) rfl (lenOf pd_4 rfl) rfl (by show 2 * 0 + _ ≤ _; exact Nat.le_of_eq rfl) (hb hby d_jdk_42_method_139_code_22) (by decide) (by decide)
  obtain ⟨rfl, Nq_79, K_79, u0_79, u1_79, u2_79⟩ := hQ_79
  have N_79 := Fr.app N_75 Nq_79
  have le_79 : T_75.heap.size ≤ T_79.heap.size := K_79.1
  have KP_79 := KP_75.trans K_79 (allS (Or.inr sz_b74) all0)
  have O_79 := O_75.keep K_79 (allS g_b74 all0)
  refine Go.step st_79 ?_
  show Go p e below _ (T_79.setTop (mkF m 25 #[.val (.int p1)] [(.ref b74)]))
  have f80 : Arv Z T_79.heap r_75 kr_75 .byte (1 : Int32) [(.int p1.toInt8.toInt32)] (.int (0 : Int32)) := (u1_75.keep K_79 (ninS (Ne.symm (Nat.ne_of_lt (Nat.lt_of_lt_of_le A_74.lt (Nat.le_trans (Nat.le_refl _) u0_75)))) nin0))
  have Sx81 : Str Z (T_79.heap).size (T_79.heap) b74 ([p1] : List Int32) := ⟨r_75, kr_75, u0_79.lt, f80.lt, u0_79, u1_79, u2_79, f80, latc l_p1 lat0, Nat.le_of_ble_eq_true rfl⟩
  exact Go.retV X_79 hx hlk hret rfl (Or.inr (Or.inr (Or.inr (Or.inr ⟨rfl, rfl, rfl⟩)))) (hb hby d_jdk_42_method_139_code_25) (by decide) (by decide) (by exact ⟨b74, rfl, N_79, KP_79, sz_b74, Sx81⟩)
--@E
--@C reqNN
def Q_reqNN (Z : State) (zc : Int32) (kd0 : Addr) (kd1 : Addr) (kd2 : Addr) (kd3 : Addr) (kd4 : Addr) (kd5 : Addr) (kd6 : Addr) (kd7 : Addr) (kd8 : Addr) (kd9 : Addr) (kd10 : Addr) (kd11 : Addr) (kd12 : Addr) (kd13 : Addr) (kd14 : Addr) (kd15 : Addr) (kd16 : Addr) (kd17 : Addr) (a1 : Addr) (a2 : Addr) (h0 : Heap) (n0 : Nat) (v : Option Value) (h : Heap) (L : List Loc) : Prop := v = some (.ref a1) ∧ Fr n0 L ∧ h = h0
set_option maxRecDepth 65536 in
set_option maxHeartbeats 40000000 in
theorem rm_reqNN (l : Launch) (Z : State) (a0 : Array Value) (hw : ∀ d ∈ tables_1, d.before a0 Z = true) (zc : Int32) (kd0 : Addr) (kd1 : Addr) (kd2 : Addr) (kd3 : Addr) (kd4 : Addr) (kd5 : Addr) (kd6 : Addr) (kd7 : Addr) (kd8 : Addr) (kd9 : Addr) (kd10 : Addr) (kd11 : Addr) (kd12 : Addr) (kd13 : Addr) (kd14 : Addr) (kd15 : Addr) (kd16 : Addr) (kd17 : Addr) (a1 : Addr) (a2 : Addr) (h0 : Heap) (n0 : Nat) (Z0 : n0 ≤ h0.size) (hSt : St Z zc kd0 kd1 kd2 kd3 kd4 kd5 kd6 kd7 kd8 kd9 kd10 kd11 kd12 kd13 kd14 kd15 kd16 kd17) (hO : Old Z n0 h0) :
    CN l Z ({ cls := "java/util/Objects", name := "requireNonNull", desc := "(Ljava/lang/Object;Ljava/lang/String;)Ljava/lang/Object;" } : Jvm.MethodName) [(Jvm.Cond.code ({ cls := "java/util/Objects", name := "requireNonNull", desc := "(Ljava/lang/Object;Ljava/lang/String;)Ljava/lang/Object;" } : Jvm.MethodName) jdk_31_method_11_code (2 : Nat) (Option.some (Jvm.ClassFile.FieldType.object "java/lang/Object")))] ({ frames := 0, cells := 0, slots := 0, locals := 0 } : Room) #[(.ref a1), (.ref a2)] h0 (Q_reqNN Z zc kd0 kd1 kd2 kd3 kd4 kd5 kd6 kd7 kd8 kd9 kd10 kd11 kd12 kd13 kd14 kd15 kd16 kd17 a1 a2 h0 n0) := by
  refine CN.of (L0 := #[.val (.ref a1), .val (.ref a2)]) (plainFor_of_name pn_3) (fun m => by first | (simp [entryFrame, mkF, argsToLocals, Value.category]; done) | rfl) ?_
  intro p e s m below meth c s₁ hx hby hml hret hlk hZ hown hnm X0 e0
  have N0 := Fr.nil n0
  have KP0 := Keep.refl h0 []
  have hSt_ := hSt
  obtain ⟨S_cs, n_cs, S_kd0, S_kd1, S_kd2, S_kd3, S_kd4, S_kd5, S_kd6, S_kd7, S_kd8, S_kd9, S_kd10, S_kd11, S_kd12, S_kd13, S_kd14, S_kd15, S_kd16, S_kd17⟩ := hSt_
  show Go p e below _ (s₁.setTop (mkF m 0 #[.val (.ref a1), .val (.ref a2)] []))
  refine Go.step (fun _ k => XS.aloadN X0.here hx rfl (hb hby d_jdk_31_method_11_code_0) rfl rfl k) ?_
  show Go p e below _ (s₁.setTop (mkF m 1 #[.val (.ref a1), .val (.ref a2)] [(.ref a1)]))
  refine Go.step (fun _ k => XS.ifnonnullYes X0.here hx rfl (pc0 := 1) (pc' := 13) rfl (hb hby d_jdk_31_method_11_code_1) rfl (by decide) (by decide) k) ?_
  show Go p e below _ (s₁.setTop (mkF m 13 #[.val (.ref a1), .val (.ref a2)] []))
  refine Go.step (fun _ k => XS.aloadN X0.here hx rfl (hb hby d_jdk_31_method_11_code_13) rfl rfl k) ?_
  show Go p e below _ (s₁.setTop (mkF m 14 #[.val (.ref a1), .val (.ref a2)] [(.ref a1)]))
  exact Go.retV X0 hx hlk hret rfl (Or.inr (Or.inr (Or.inr (Or.inr ⟨rfl, rfl, rfl⟩)))) (hb hby d_jdk_31_method_11_code_14) (by decide) (by decide) (by rw [e0]; exact ⟨rfl, N0, rfl⟩)
--@E
--@C initSP
def Q_initSP (Z : State) (zc : Int32) (kd0 : Addr) (kd1 : Addr) (kd2 : Addr) (kd3 : Addr) (kd4 : Addr) (kd5 : Addr) (kd6 : Addr) (kd7 : Addr) (kd8 : Addr) (kd9 : Addr) (kd10 : Addr) (kd11 : Addr) (kd12 : Addr) (kd13 : Addr) (kd14 : Addr) (kd15 : Addr) (kd16 : Addr) (kd17 : Addr) (a1 : Addr) (s1 : Addr) (cs : List Int32) (p1 : Int32) (p2 : Int32) (h0 : Heap) (n0 : Nat) (v : Option Value) (h : Heap) (L : List Loc) : Prop := v = none ∧ Fr n0 L ∧ Keep h0 h [a1]
set_option maxRecDepth 65536 in
set_option maxHeartbeats 40000000 in
theorem rm_initSP (l : Launch) (Z : State) (a0 : Array Value) (hw : ∀ d ∈ tables_1, d.before a0 Z = true) (zc : Int32) (kd0 : Addr) (kd1 : Addr) (kd2 : Addr) (kd3 : Addr) (kd4 : Addr) (kd5 : Addr) (kd6 : Addr) (kd7 : Addr) (kd8 : Addr) (kd9 : Addr) (kd10 : Addr) (kd11 : Addr) (kd12 : Addr) (kd13 : Addr) (kd14 : Addr) (kd15 : Addr) (kd16 : Addr) (kd17 : Addr) (a1 : Addr) (s1 : Addr) (cs : List Int32) (p1 : Int32) (p2 : Int32) (h0 : Heap) (n0 : Nat) (Z0 : n0 ≤ h0.size) (E_a1 : Exa Z h0 a1 "com/example/stubwright/stubwright/SourcePosition") (g_a1 : n0 ≤ a1) (S_s1 : Str Z h0.size h0 s1 cs) (F_file : Fld Z h0 a1 "com/example/stubwright/stubwright/SourcePosition" "file" "Ljava/lang/String;" .null) (F_line : Fld Z h0 a1 "com/example/stubwright/stubwright/SourcePosition" "line" "I" (.int (0 : Int32))) (F_column : Fld Z h0 a1 "com/example/stubwright/stubwright/SourcePosition" "column" "I" (.int (0 : Int32))) (hSt : St Z zc kd0 kd1 kd2 kd3 kd4 kd5 kd6 kd7 kd8 kd9 kd10 kd11 kd12 kd13 kd14 kd15 kd16 kd17) (hO : Old Z n0 h0) :
    CW l Z EL ({ cls := "com/example/stubwright/stubwright/SourcePosition", name := "<init>", desc := "(Ljava/lang/String;II)V" } : Jvm.MethodName) [(Jvm.Cond.code ({ cls := "com/example/stubwright/stubwright/SourcePosition", name := "<init>", desc := "(Ljava/lang/String;II)V" } : Jvm.MethodName) prog_4_method_1_code (4 : Nat) (Option.none : Option Jvm.ClassFile.FieldType))] ({ frames := 1, cells := 2, slots := 20, locals := 14 } : Room) #[(.ref a1), (.ref s1), (.int p1), (.int p2)] h0 (Q_initSP Z zc kd0 kd1 kd2 kd3 kd4 kd5 kd6 kd7 kd8 kd9 kd10 kd11 kd12 kd13 kd14 kd15 kd16 kd17 a1 s1 cs p1 p2 h0 n0) := by
  refine CW.of (L0 := #[.val (.ref a1), .val (.ref s1), .val (.int p1), .val (.int p2)]) (plainFor_of_name pn_4) (fun m => by first | (simp [entryFrame, mkF, argsToLocals, Value.category]; done) | rfl) ?_
  intro p e s m below meth c s₁ hx hby hml hret hlk hZ hown hnm X0 e0 hS0 hk0 CV0 hh0
  have hEL := hEL_ (a0 := a0) hw
  have hwS := hwS_ hw
  have N0 := Fr.nil n0
  have KP0 := Keep.refl h0 [a1]
  have hSt_ := hSt
  obtain ⟨S_cs, n_cs, S_kd0, S_kd1, S_kd2, S_kd3, S_kd4, S_kd5, S_kd6, S_kd7, S_kd8, S_kd9, S_kd10, S_kd11, S_kd12, S_kd13, S_kd14, S_kd15, S_kd16, S_kd17⟩ := hSt_
  show Go p e below _ (s₁.setTop (mkF m 0 #[.val (.ref a1), .val (.ref s1), .val (.int p1), .val (.int p2)] []))
  refine Go.step (fun _ k => XS.aloadN X0.here hx rfl (hb hby d_prog_4_method_1_code_0) rfl rfl k) ?_
  show Go p e below _ (s₁.setTop (mkF m 1 #[.val (.ref a1), .val (.ref s1), .val (.int p1), .val (.int p2)] [(.ref a1)]))
  obtain ⟨T_82, X_82, e_82, st_82⟩ := initO X0 hx hZ hown (wd_55 hw) (wd_17 hw) (wd_18 hw) e0 (g := (mkF m 1 #[.val (.ref a1), .val (.ref s1), .val (.int p1), .val (.int p2)] [(.ref a1)])) rfl (by rw [hml]; rfl) rfl (hb hby d_prog_4_method_1_code_1) (by decide) (W := 0) (by show 2 * 0 + _ ≤ _; exact Nat.le_of_eq rfl) (by decide)
  refine Go.step st_82 ?_
  show Go p e below _ (T_82.setTop (mkF m 4 #[.val (.ref a1), .val (.ref s1), .val (.int p1), .val (.int p2)] []))
  refine Go.step (fun _ k => XS.aloadN X_82.here hx rfl (hb hby d_prog_4_method_1_code_4) rfl rfl k) ?_
  show Go p e below _ (T_82.setTop (mkF m 5 #[.val (.ref a1), .val (.ref s1), .val (.int p1), .val (.int p2)] [(.ref a1)]))
  refine Go.step (fun _ k => XS.aloadN X_82.here hx rfl (hb hby d_prog_4_method_1_code_5) rfl rfl k) ?_
  show Go p e below _ (T_82.setTop (mkF m 6 #[.val (.ref a1), .val (.ref s1), .val (.int p1), .val (.int p2)] [(.ref s1), (.ref a1)]))
  obtain ⟨a_83, T_83, h_83, k1_83, t_83, kb_83, X_83, e_83, E_83, hS_83, hk_83, hZ_83, hown_83, Ex_83, Fc_83, Fv_83, Av_83, lta_83, ltb_83, C_83, Lt_83, -, st_83⟩ := ldcCH X_82 hx hZ hown (wd_56 hw) hwS e_82 hS0 hk0 hEL (by decide) CV0 (vs := [(.int (102 : Int32)), (.int (105 : Int32)), (.int (108 : Int32)), (.int (101 : Int32))]) (z := (4 : Int32)) ⟨by decide, by decide⟩ (by decide) (by decide) (g := (mkF m 6 #[.val (.ref a1), .val (.ref s1), .val (.int p1), .val (.int p2)] [(.ref s1), (.ref a1)])) rfl (hb hby d_prog_4_method_1_code_6) (n := 16) (by decide) (by decide) (by decide) (by decide)
  refine Go.step st_83 ?_
  have CR_83 := CHr.trans (CHr.refl CV0) C_83
  have le_83 : h0.size ≤ h_83.size := E_83.1
  have KP_83 := KP0.ext E_83
  have O_83 := hO.ext E_83
  have Sx_83 : Str Z h_83.size h_83 a_83 ([(102 : Int32), (105 : Int32), (108 : Int32), (101 : Int32)] : List Int32) := ⟨t_83, kb_83, lta_83, ltb_83, Ex_83, Fv_83, Fc_83, Av_83, by decide, by decide⟩
  show Go p e below _ (T_83.setTop (mkF m 8 #[.val (.ref a1), .val (.ref s1), .val (.int p1), .val (.int p2)] [(.ref a_83), (.ref s1), (.ref a1)]))
  obtain ⟨v_84, T_84, L_84, X_84, hQ_84, st_84⟩ := goS X_83 hx hZ_83 (y := ({ cls := "java/util/Objects", name := "requireNonNull", desc := "(Ljava/lang/Object;Ljava/lang/String;)Ljava/lang/Object;" } : Jvm.MethodName)) hown_83 (wd_59 hw) (wd_60 hw) (wd_61 hw) (wd_62 hw) (by decide) (backOf (W := 1) (rm_reqNN l Z a0 hw zc kd0 kd1 kd2 kd3 kd4 kd5 kd6 kd7 kd8 kd9 kd10 kd11 kd12 kd13 kd14 kd15 kd16 kd17 (s1) (a_83) h_83 n0 (Nat.le_trans Z0 KP_83.1) hSt O_83) hZ_83 (wd_62 hw) (wd_61 hw) (by decide) (by decide)) e_83 (g := (mkF m 8 #[.val (.ref a1), .val (.ref s1), .val (.int p1), .val (.int p2)] [(.ref a_83), (.ref s1), (.ref a1)])) rfl (by rw [hml]; rfl) (argsL := [(.ref s1), (.ref a_83)]) (rest := [(.ref a1)]) rfl (lenOf pd_5 rfl) rfl (by show 2 * 0 + _ ≤ _; exact Nat.le_of_eq rfl) (hb hby d_prog_4_method_1_code_8) (by decide) (by decide)
  obtain ⟨rfl, Nq_84, e_84⟩ := hQ_84
  have N_84 := Fr.app N0 Nq_84
  refine Go.step st_84 ?_
  show Go p e below _ (T_84.setTop (mkF m 11 #[.val (.ref a1), .val (.ref s1), .val (.int p1), .val (.int p2)] [(.ref s1), (.ref a1)]))
  have f85 : Str Z h0.size h_83 s1 cs := (S_s1.ext E_83)
  obtain ⟨T_86, X_86, e_86, st_86⟩ := castY X_84 hx hZ_83 hown_83 (wd_63 hw) e_84 (Ins.self f85.exa) (g := (mkF m 11 #[.val (.ref a1), .val (.ref s1), .val (.int p1), .val (.int p2)] [(.ref s1), (.ref a1)])) rfl rfl (hb hby d_prog_4_method_1_code_11)
  refine Go.step st_86 ?_
  show Go p e below _ (T_86.setTop (mkF m 14 #[.val (.ref a1), .val (.ref s1), .val (.int p1), .val (.int p2)] [(.ref s1), (.ref a1)]))
  have f87 : Exa Z h_83 a1 "com/example/stubwright/stubwright/SourcePosition" := (E_a1.ext E_83)
  have f88 : Fld Z h_83 a1 "com/example/stubwright/stubwright/SourcePosition" "file" "Ljava/lang/String;" .null := (F_file.ext E_83)
  obtain ⟨T_89, h_89, X_89, e_89, W_89, st_89⟩ := putF X_86 hx hZ_83 hown_83 (host := "") (Or.inl (wd_64 hw)) Via.refl e_86 f88 f87 (Or.inr ⟨(wd_65 hw), rfl, hnm⟩) (wd_50 hw) (ty := (.object "java/lang/String")) pf_2 rfl rfl (g := (mkF m 14 #[.val (.ref a1), .val (.ref s1), .val (.int p1), .val (.int p2)] [(.ref s1), (.ref a1)])) rfl rfl (hb hby d_prog_4_method_1_code_14)
  refine Go.step st_89 ?_
  have N_89 := Fr.snoc X_89 N_84 g_a1
  have C_89 := CHr.wr W_89 (Safe.exa hZ_83.alike f87 (by decide) (by decide)) C_83.1
  have CR_89 := CHr.trans CR_83 C_89
  have le_89 : h_83.size ≤ h_89.size := Nat.le_of_eq W_89.size.symm
  have KP_89 := KP_83.wr W_89 (Or.inl (List.mem_of_getElem? (i := 0) rfl))
  have O_89 := O_83.wr W_89 g_a1
  have F_89 : Fld Z h_89 a1 "com/example/stubwright/stubwright/SourcePosition" "file" "Ljava/lang/String;" (.ref s1) := f88.same W_89
  show Go p e below _ (T_89.setTop (mkF m 17 #[.val (.ref a1), .val (.ref s1), .val (.int p1), .val (.int p2)] []))
  refine Go.step (fun _ k => XS.aloadN X_89.here hx rfl (hb hby d_prog_4_method_1_code_17) rfl rfl k) ?_
  show Go p e below _ (T_89.setTop (mkF m 18 #[.val (.ref a1), .val (.ref s1), .val (.int p1), .val (.int p2)] [(.ref a1)]))
  refine Go.step (fun _ k => XS.iloadN X_89.here hx rfl (hb hby d_prog_4_method_1_code_18) rfl  k) ?_
  show Go p e below _ (T_89.setTop (mkF m 19 #[.val (.ref a1), .val (.ref s1), .val (.int p1), .val (.int p2)] [(.int p1), (.ref a1)]))
  have f90 : Exa Z h_89 a1 "com/example/stubwright/stubwright/SourcePosition" := (f87.wr W_89)
  have f91 : Fld Z h_89 a1 "com/example/stubwright/stubwright/SourcePosition" "line" "I" (.int (0 : Int32)) := ((F_line.ext E_83).other W_89 (Or.inr (sn_2 hw)))
  obtain ⟨T_92, h_92, X_92, e_92, W_92, st_92⟩ := putF X_89 hx hZ_83 hown_83 (host := "") (Or.inl (wd_66 hw)) Via.refl e_89 f91 f90 (Or.inr ⟨(wd_67 hw), rfl, hnm⟩) (wd_50 hw) (ty := .int) pf_3 rfl rfl (g := (mkF m 19 #[.val (.ref a1), .val (.ref s1), .val (.int p1), .val (.int p2)] [(.int p1), (.ref a1)])) rfl rfl (hb hby d_prog_4_method_1_code_19)
  refine Go.step st_92 ?_
  have N_92 := Fr.snoc X_92 N_89 g_a1
  have C_92 := CHr.wr W_92 (Safe.exa hZ_83.alike f90 (by decide) (by decide)) C_89.1
  have CR_92 := CHr.trans CR_89 C_92
  have le_92 : h_89.size ≤ h_92.size := Nat.le_of_eq W_92.size.symm
  have KP_92 := KP_89.wr W_92 (Or.inl (List.mem_of_getElem? (i := 0) rfl))
  have O_92 := O_89.wr W_92 g_a1
  have F_92 : Fld Z h_92 a1 "com/example/stubwright/stubwright/SourcePosition" "line" "I" (.int p1) := f91.same W_92
  show Go p e below _ (T_92.setTop (mkF m 22 #[.val (.ref a1), .val (.ref s1), .val (.int p1), .val (.int p2)] []))
  refine Go.step (fun _ k => XS.aloadN X_92.here hx rfl (hb hby d_prog_4_method_1_code_22) rfl rfl k) ?_
  show Go p e below _ (T_92.setTop (mkF m 23 #[.val (.ref a1), .val (.ref s1), .val (.int p1), .val (.int p2)] [(.ref a1)]))
  refine Go.step (fun _ k => XS.iloadN X_92.here hx rfl (hb hby d_prog_4_method_1_code_23) rfl  k) ?_
  show Go p e below _ (T_92.setTop (mkF m 24 #[.val (.ref a1), .val (.ref s1), .val (.int p1), .val (.int p2)] [(.int p2), (.ref a1)]))
  have f93 : Exa Z h_92 a1 "com/example/stubwright/stubwright/SourcePosition" := (f90.wr W_92)
  have f94 : Fld Z h_92 a1 "com/example/stubwright/stubwright/SourcePosition" "column" "I" (.int (0 : Int32)) := (((F_column.ext E_83).other W_89 (Or.inr (sn_3 hw))).other W_92 (Or.inr (sn_4 hw)))
  obtain ⟨T_95, h_95, X_95, e_95, W_95, st_95⟩ := putF X_92 hx hZ_83 hown_83 (host := "") (Or.inl (wd_68 hw)) Via.refl e_92 f94 f93 (Or.inr ⟨(wd_69 hw), rfl, hnm⟩) (wd_50 hw) (ty := .int) pf_3 rfl rfl (g := (mkF m 24 #[.val (.ref a1), .val (.ref s1), .val (.int p1), .val (.int p2)] [(.int p2), (.ref a1)])) rfl rfl (hb hby d_prog_4_method_1_code_24)
  refine Go.step st_95 ?_
  have N_95 := Fr.snoc X_95 N_92 g_a1
  have C_95 := CHr.wr W_95 (Safe.exa hZ_83.alike f93 (by decide) (by decide)) C_92.1
  have CR_95 := CHr.trans CR_92 C_95
  have le_95 : h_92.size ≤ h_95.size := Nat.le_of_eq W_95.size.symm
  have KP_95 := KP_92.wr W_95 (Or.inl (List.mem_of_getElem? (i := 0) rfl))
  have O_95 := O_92.wr W_95 g_a1
  have F_95 : Fld Z h_95 a1 "com/example/stubwright/stubwright/SourcePosition" "column" "I" (.int p2) := f94.same W_95
  show Go p e below _ (T_95.setTop (mkF m 27 #[.val (.ref a1), .val (.ref s1), .val (.int p1), .val (.int p2)] []))
  exact Go.ret0W X_95 e_95 hS_83 (Nat.le_trans hk_83 (Nat.le_trans le_89 (Nat.le_trans le_92 le_95))) hZ_83 hEL hh0 CR_95 hx hlk hret (hb hby d_prog_4_method_1_code_27) (by decide) (by decide) (by rw [e_95]; exact ⟨rfl, N_95, KP_95⟩)
--@E
--@C initT4
def Q_initT4 (Z : State) (zc : Int32) (kd0 : Addr) (kd1 : Addr) (kd2 : Addr) (kd3 : Addr) (kd4 : Addr) (kd5 : Addr) (kd6 : Addr) (kd7 : Addr) (kd8 : Addr) (kd9 : Addr) (kd10 : Addr) (kd11 : Addr) (kd12 : Addr) (kd13 : Addr) (kd14 : Addr) (kd15 : Addr) (kd16 : Addr) (kd17 : Addr) (a1 : Addr) (k1 : Addr) (t1 : Addr) (ps : Addr) (e1 : Int32) (h0 : Heap) (n0 : Nat) (v : Option Value) (h : Heap) (L : List Loc) : Prop := v = none ∧ Fr n0 L ∧ Keep h0 h [a1] ∧ Fld Z h a1 "com/example/stubwright/stubwright/idl/Token" "kind" "Lcom/example/stubwright/stubwright/idl/Token$Kind;" (.ref k1) ∧ Fld Z h a1 "com/example/stubwright/stubwright/idl/Token" "text" "Ljava/lang/String;" (.ref t1) ∧ Fld Z h a1 "com/example/stubwright/stubwright/idl/Token" "position" "Lcom/example/stubwright/stubwright/SourcePosition;" (.ref ps) ∧ Fld Z h a1 "com/example/stubwright/stubwright/idl/Token" "escaped" "Z" (.int e1)
set_option maxRecDepth 65536 in
set_option maxHeartbeats 40000000 in
theorem rm_initT4 (l : Launch) (Z : State) (a0 : Array Value) (hw : ∀ d ∈ tables_1, d.before a0 Z = true) (zc : Int32) (kd0 : Addr) (kd1 : Addr) (kd2 : Addr) (kd3 : Addr) (kd4 : Addr) (kd5 : Addr) (kd6 : Addr) (kd7 : Addr) (kd8 : Addr) (kd9 : Addr) (kd10 : Addr) (kd11 : Addr) (kd12 : Addr) (kd13 : Addr) (kd14 : Addr) (kd15 : Addr) (kd16 : Addr) (kd17 : Addr) (a1 : Addr) (k1 : Addr) (t1 : Addr) (ps : Addr) (e1 : Int32) (h0 : Heap) (n0 : Nat) (Z0 : n0 ≤ h0.size) (E_a1 : Exa Z h0 a1 "com/example/stubwright/stubwright/idl/Token") (g_a1 : n0 ≤ a1) (F_kind : Fld Z h0 a1 "com/example/stubwright/stubwright/idl/Token" "kind" "Lcom/example/stubwright/stubwright/idl/Token$Kind;" .null) (F_text : Fld Z h0 a1 "com/example/stubwright/stubwright/idl/Token" "text" "Ljava/lang/String;" .null) (F_position : Fld Z h0 a1 "com/example/stubwright/stubwright/idl/Token" "position" "Lcom/example/stubwright/stubwright/SourcePosition;" .null) (F_escaped : Fld Z h0 a1 "com/example/stubwright/stubwright/idl/Token" "escaped" "Z" (.int (0 : Int32))) (he : (e1 = 0 ∨ e1 = 1)) (hSt : St Z zc kd0 kd1 kd2 kd3 kd4 kd5 kd6 kd7 kd8 kd9 kd10 kd11 kd12 kd13 kd14 kd15 kd16 kd17) (hO : Old Z n0 h0) :
    CN l Z ({ cls := "com/example/stubwright/stubwright/idl/Token", name := "<init>", desc := "(Lcom/example/stubwright/stubwright/idl/Token$Kind;Ljava/lang/String;Lcom/example/stubwright/stubwright/SourcePosition;Z)V" } : Jvm.MethodName) [(Jvm.Cond.code ({ cls := "com/example/stubwright/stubwright/idl/Token", name := "<init>", desc := "(Lcom/example/stubwright/stubwright/idl/Token$Kind;Ljava/lang/String;Lcom/example/stubwright/stubwright/SourcePosition;Z)V" } : Jvm.MethodName) prog_36_method_2_code (5 : Nat) (Option.none : Option Jvm.ClassFile.FieldType))] ({ frames := 1, cells := 0, slots := 0, locals := 12 } : Room) #[(.ref a1), (.ref k1), (.ref t1), (.ref ps), (.int e1)] h0 (Q_initT4 Z zc kd0 kd1 kd2 kd3 kd4 kd5 kd6 kd7 kd8 kd9 kd10 kd11 kd12 kd13 kd14 kd15 kd16 kd17 a1 k1 t1 ps e1 h0 n0) := by
  refine CN.of (L0 := #[.val (.ref a1), .val (.ref k1), .val (.ref t1), .val (.ref ps), .val (.int e1)]) (plainFor_of_name pn_5) (fun m => by first | (simp [entryFrame, mkF, argsToLocals, Value.category]; done) | rfl) ?_
  intro p e s m below meth c s₁ hx hby hml hret hlk hZ hown hnm X0 e0
  have N0 := Fr.nil n0
  have KP0 := Keep.refl h0 [a1]
  have hSt_ := hSt
  obtain ⟨S_cs, n_cs, S_kd0, S_kd1, S_kd2, S_kd3, S_kd4, S_kd5, S_kd6, S_kd7, S_kd8, S_kd9, S_kd10, S_kd11, S_kd12, S_kd13, S_kd14, S_kd15, S_kd16, S_kd17⟩ := hSt_
  show Go p e below _ (s₁.setTop (mkF m 0 #[.val (.ref a1), .val (.ref k1), .val (.ref t1), .val (.ref ps), .val (.int e1)] []))
  refine Go.step (fun _ k => XS.aloadN X0.here hx rfl (hb hby d_prog_36_method_2_code_0) rfl rfl k) ?_
  show Go p e below _ (s₁.setTop (mkF m 1 #[.val (.ref a1), .val (.ref k1), .val (.ref t1), .val (.ref ps), .val (.int e1)] [(.ref a1)]))
  obtain ⟨T_96, X_96, e_96, st_96⟩ := initO X0 hx hZ hown (wd_83 hw) (wd_17 hw) (wd_18 hw) e0 (g := (mkF m 1 #[.val (.ref a1), .val (.ref k1), .val (.ref t1), .val (.ref ps), .val (.int e1)] [(.ref a1)])) rfl (by rw [hml]; rfl) rfl (hb hby d_prog_36_method_2_code_1) (by decide) (W := 0) (by show 2 * 0 + _ ≤ _; exact Nat.le_of_eq rfl) (by decide)
  refine Go.step st_96 ?_
  show Go p e below _ (T_96.setTop (mkF m 4 #[.val (.ref a1), .val (.ref k1), .val (.ref t1), .val (.ref ps), .val (.int e1)] []))
  refine Go.step (fun _ k => XS.aloadN X_96.here hx rfl (hb hby d_prog_36_method_2_code_4) rfl rfl k) ?_
  show Go p e below _ (T_96.setTop (mkF m 5 #[.val (.ref a1), .val (.ref k1), .val (.ref t1), .val (.ref ps), .val (.int e1)] [(.ref a1)]))
  refine Go.step (fun _ k => XS.aloadN X_96.here hx rfl (hb hby d_prog_36_method_2_code_5) rfl rfl k) ?_
  show Go p e below _ (T_96.setTop (mkF m 6 #[.val (.ref a1), .val (.ref k1), .val (.ref t1), .val (.ref ps), .val (.int e1)] [(.ref k1), (.ref a1)]))
  obtain ⟨T_97, h_97, X_97, e_97, W_97, st_97⟩ := putF X_96 hx hZ hown (host := "") (Or.inl (wd_84 hw)) Via.refl e_96 F_kind E_a1 (Or.inr ⟨(wd_85 hw), rfl, hnm⟩) (wd_78 hw) (ty := (.object "com/example/stubwright/stubwright/idl/Token$Kind")) pf_4 rfl rfl (g := (mkF m 6 #[.val (.ref a1), .val (.ref k1), .val (.ref t1), .val (.ref ps), .val (.int e1)] [(.ref k1), (.ref a1)])) rfl rfl (hb hby d_prog_36_method_2_code_6)
  refine Go.step st_97 ?_
  have N_97 := Fr.snoc X_97 N0 g_a1
  have le_97 : h0.size ≤ h_97.size := Nat.le_of_eq W_97.size.symm
  have KP_97 := KP0.wr W_97 (Or.inl (List.mem_of_getElem? (i := 0) rfl))
  have O_97 := hO.wr W_97 g_a1
  have F_97 : Fld Z h_97 a1 "com/example/stubwright/stubwright/idl/Token" "kind" "Lcom/example/stubwright/stubwright/idl/Token$Kind;" (.ref k1) := F_kind.same W_97
  show Go p e below _ (T_97.setTop (mkF m 9 #[.val (.ref a1), .val (.ref k1), .val (.ref t1), .val (.ref ps), .val (.int e1)] []))
  refine Go.step (fun _ k => XS.aloadN X_97.here hx rfl (hb hby d_prog_36_method_2_code_9) rfl rfl k) ?_
  show Go p e below _ (T_97.setTop (mkF m 10 #[.val (.ref a1), .val (.ref k1), .val (.ref t1), .val (.ref ps), .val (.int e1)] [(.ref a1)]))
  refine Go.step (fun _ k => XS.aloadN X_97.here hx rfl (hb hby d_prog_36_method_2_code_10) rfl rfl k) ?_
  show Go p e below _ (T_97.setTop (mkF m 11 #[.val (.ref a1), .val (.ref k1), .val (.ref t1), .val (.ref ps), .val (.int e1)] [(.ref t1), (.ref a1)]))
  have f98 : Exa Z h_97 a1 "com/example/stubwright/stubwright/idl/Token" := (E_a1.wr W_97)
  have f99 : Fld Z h_97 a1 "com/example/stubwright/stubwright/idl/Token" "text" "Ljava/lang/String;" .null := (F_text.other W_97 (Or.inr (sn_5 hw)))
  obtain ⟨T_100, h_100, X_100, e_100, W_100, st_100⟩ := putF X_97 hx hZ hown (host := "") (Or.inl (wd_86 hw)) Via.refl e_97 f99 f98 (Or.inr ⟨(wd_87 hw), rfl, hnm⟩) (wd_78 hw) (ty := (.object "java/lang/String")) pf_2 rfl rfl (g := (mkF m 11 #[.val (.ref a1), .val (.ref k1), .val (.ref t1), .val (.ref ps), .val (.int e1)] [(.ref t1), (.ref a1)])) rfl rfl (hb hby d_prog_36_method_2_code_11)
  refine Go.step st_100 ?_
  have N_100 := Fr.snoc X_100 N_97 g_a1
  have le_100 : h_97.size ≤ h_100.size := Nat.le_of_eq W_100.size.symm
  have KP_100 := KP_97.wr W_100 (Or.inl (List.mem_of_getElem? (i := 0) rfl))
  have O_100 := O_97.wr W_100 g_a1
  have F_100 : Fld Z h_100 a1 "com/example/stubwright/stubwright/idl/Token" "text" "Ljava/lang/String;" (.ref t1) := f99.same W_100
  show Go p e below _ (T_100.setTop (mkF m 14 #[.val (.ref a1), .val (.ref k1), .val (.ref t1), .val (.ref ps), .val (.int e1)] []))
  refine Go.step (fun _ k => XS.aloadN X_100.here hx rfl (hb hby d_prog_36_method_2_code_14) rfl rfl k) ?_
  show Go p e below _ (T_100.setTop (mkF m 15 #[.val (.ref a1), .val (.ref k1), .val (.ref t1), .val (.ref ps), .val (.int e1)] [(.ref a1)]))
  refine Go.step (fun _ k => XS.aloadN X_100.here hx rfl (hb hby d_prog_36_method_2_code_15) rfl rfl k) ?_
  show Go p e below _ (T_100.setTop (mkF m 16 #[.val (.ref a1), .val (.ref k1), .val (.ref t1), .val (.ref ps), .val (.int e1)] [(.ref ps), (.ref a1)]))
  have f101 : Exa Z h_100 a1 "com/example/stubwright/stubwright/idl/Token" := (f98.wr W_100)
  have f102 : Fld Z h_100 a1 "com/example/stubwright/stubwright/idl/Token" "position" "Lcom/example/stubwright/stubwright/SourcePosition;" .null := ((F_position.other W_97 (Or.inr (sn_6 hw))).other W_100 (Or.inr (sn_7 hw)))
  obtain ⟨T_103, h_103, X_103, e_103, W_103, st_103⟩ := putF X_100 hx hZ hown (host := "") (Or.inl (wd_88 hw)) Via.refl e_100 f102 f101 (Or.inr ⟨(wd_89 hw), rfl, hnm⟩) (wd_78 hw) (ty := (.object "com/example/stubwright/stubwright/SourcePosition")) pf_5 rfl rfl (g := (mkF m 16 #[.val (.ref a1), .val (.ref k1), .val (.ref t1), .val (.ref ps), .val (.int e1)] [(.ref ps), (.ref a1)])) rfl rfl (hb hby d_prog_36_method_2_code_16)
  refine Go.step st_103 ?_
  have N_103 := Fr.snoc X_103 N_100 g_a1
  have le_103 : h_100.size ≤ h_103.size := Nat.le_of_eq W_103.size.symm
  have KP_103 := KP_100.wr W_103 (Or.inl (List.mem_of_getElem? (i := 0) rfl))
  have O_103 := O_100.wr W_103 g_a1
  have F_103 : Fld Z h_103 a1 "com/example/stubwright/stubwright/idl/Token" "position" "Lcom/example/stubwright/stubwright/SourcePosition;" (.ref ps) := f102.same W_103
  show Go p e below _ (T_103.setTop (mkF m 19 #[.val (.ref a1), .val (.ref k1), .val (.ref t1), .val (.ref ps), .val (.int e1)] []))
  refine Go.step (fun _ k => XS.aloadN X_103.here hx rfl (hb hby d_prog_36_method_2_code_19) rfl rfl k) ?_
  show Go p e below _ (T_103.setTop (mkF m 20 #[.val (.ref a1), .val (.ref k1), .val (.ref t1), .val (.ref ps), .val (.int e1)] [(.ref a1)]))
  refine Go.step (fun _ k => XS.iload X_103.here hx rfl (hb hby d_prog_36_method_2_code_20) rfl  k) ?_
  show Go p e below _ (T_103.setTop (mkF m 22 #[.val (.ref a1), .val (.ref k1), .val (.ref t1), .val (.ref ps), .val (.int e1)] [(.int e1), (.ref a1)]))
  have f104 : Exa Z h_103 a1 "com/example/stubwright/stubwright/idl/Token" := (f101.wr W_103)
  have f105 : Fld Z h_103 a1 "com/example/stubwright/stubwright/idl/Token" "escaped" "Z" (.int (0 : Int32)) := (((F_escaped.other W_97 (Or.inr (sn_8 hw))).other W_100 (Or.inr (sn_9 hw))).other W_103 (Or.inr (sn_10 hw)))
  obtain ⟨T_106, h_106, X_106, e_106, W_106, st_106⟩ := putFN X_103 hx hZ hown (wd_90 hw) Via.refl e_103 f105 f104 (Or.inr ⟨(wd_91 hw), rfl, hnm⟩) (wd_78 hw) (ty := .boolean) (v' := (.int e1)) pf_6 (nar01 he) (fits01 he) (g := (mkF m 22 #[.val (.ref a1), .val (.ref k1), .val (.ref t1), .val (.ref ps), .val (.int e1)] [(.int e1), (.ref a1)])) rfl rfl (hb hby d_prog_36_method_2_code_22)
  refine Go.step st_106 ?_
  have N_106 := Fr.snoc X_106 N_103 g_a1
  have le_106 : h_103.size ≤ h_106.size := Nat.le_of_eq W_106.size.symm
  have KP_106 := KP_103.wr W_106 (Or.inl (List.mem_of_getElem? (i := 0) rfl))
  have O_106 := O_103.wr W_106 g_a1
  have F_106 : Fld Z h_106 a1 "com/example/stubwright/stubwright/idl/Token" "escaped" "Z" (.int e1) := f105.same W_106
  show Go p e below _ (T_106.setTop (mkF m 25 #[.val (.ref a1), .val (.ref k1), .val (.ref t1), .val (.ref ps), .val (.int e1)] []))
  have f107 : Fld Z h_106 a1 "com/example/stubwright/stubwright/idl/Token" "kind" "Lcom/example/stubwright/stubwright/idl/Token$Kind;" (.ref k1) := (((F_97.other W_100 (Or.inr (sn_11 hw))).other W_103 (Or.inr (sn_12 hw))).other W_106 (Or.inr (sn_13 hw)))
  have f108 : Fld Z h_106 a1 "com/example/stubwright/stubwright/idl/Token" "text" "Ljava/lang/String;" (.ref t1) := ((F_100.other W_103 (Or.inr (sn_14 hw))).other W_106 (Or.inr (sn_15 hw)))
  have f109 : Fld Z h_106 a1 "com/example/stubwright/stubwright/idl/Token" "position" "Lcom/example/stubwright/stubwright/SourcePosition;" (.ref ps) := (F_103.other W_106 (Or.inr (sn_16 hw)))
  exact Go.ret0 X_106 hx hlk hret (hb hby d_prog_36_method_2_code_25) (by decide) (by decide) (by rw [e_106]; exact ⟨rfl, N_106, KP_106, f107, f108, f109, F_106⟩)
--@E
--@C initT3
def Q_initT3 (Z : State) (zc : Int32) (kd0 : Addr) (kd1 : Addr) (kd2 : Addr) (kd3 : Addr) (kd4 : Addr) (kd5 : Addr) (kd6 : Addr) (kd7 : Addr) (kd8 : Addr) (kd9 : Addr) (kd10 : Addr) (kd11 : Addr) (kd12 : Addr) (kd13 : Addr) (kd14 : Addr) (kd15 : Addr) (kd16 : Addr) (kd17 : Addr) (a1 : Addr) (k1 : Addr) (t1 : Addr) (ps : Addr) (h0 : Heap) (n0 : Nat) (v : Option Value) (h : Heap) (L : List Loc) : Prop := v = none ∧ Fr n0 L ∧ Keep h0 h [a1] ∧ Fld Z h a1 "com/example/stubwright/stubwright/idl/Token" "kind" "Lcom/example/stubwright/stubwright/idl/Token$Kind;" (.ref k1) ∧ Fld Z h a1 "com/example/stubwright/stubwright/idl/Token" "text" "Ljava/lang/String;" (.ref t1) ∧ Fld Z h a1 "com/example/stubwright/stubwright/idl/Token" "position" "Lcom/example/stubwright/stubwright/SourcePosition;" (.ref ps) ∧ Fld Z h a1 "com/example/stubwright/stubwright/idl/Token" "escaped" "Z" (.int (0 : Int32))
set_option maxRecDepth 65536 in
set_option maxHeartbeats 40000000 in
theorem rm_initT3 (l : Launch) (Z : State) (a0 : Array Value) (hw : ∀ d ∈ tables_1, d.before a0 Z = true) (zc : Int32) (kd0 : Addr) (kd1 : Addr) (kd2 : Addr) (kd3 : Addr) (kd4 : Addr) (kd5 : Addr) (kd6 : Addr) (kd7 : Addr) (kd8 : Addr) (kd9 : Addr) (kd10 : Addr) (kd11 : Addr) (kd12 : Addr) (kd13 : Addr) (kd14 : Addr) (kd15 : Addr) (kd16 : Addr) (kd17 : Addr) (a1 : Addr) (k1 : Addr) (t1 : Addr) (ps : Addr) (h0 : Heap) (n0 : Nat) (Z0 : n0 ≤ h0.size) (E_a1 : Exa Z h0 a1 "com/example/stubwright/stubwright/idl/Token") (g_a1 : n0 ≤ a1) (F_kind : Fld Z h0 a1 "com/example/stubwright/stubwright/idl/Token" "kind" "Lcom/example/stubwright/stubwright/idl/Token$Kind;" .null) (F_text : Fld Z h0 a1 "com/example/stubwright/stubwright/idl/Token" "text" "Ljava/lang/String;" .null) (F_position : Fld Z h0 a1 "com/example/stubwright/stubwright/idl/Token" "position" "Lcom/example/stubwright/stubwright/SourcePosition;" .null) (F_escaped : Fld Z h0 a1 "com/example/stubwright/stubwright/idl/Token" "escaped" "Z" (.int (0 : Int32))) (hSt : St Z zc kd0 kd1 kd2 kd3 kd4 kd5 kd6 kd7 kd8 kd9 kd10 kd11 kd12 kd13 kd14 kd15 kd16 kd17) (hO : Old Z n0 h0) :
    CN l Z ({ cls := "com/example/stubwright/stubwright/idl/Token", name := "<init>", desc := "(Lcom/example/stubwright/stubwright/idl/Token$Kind;Ljava/lang/String;Lcom/example/stubwright/stubwright/SourcePosition;)V" } : Jvm.MethodName) [(Jvm.Cond.code ({ cls := "com/example/stubwright/stubwright/idl/Token", name := "<init>", desc := "(Lcom/example/stubwright/stubwright/idl/Token$Kind;Ljava/lang/String;Lcom/example/stubwright/stubwright/SourcePosition;)V" } : Jvm.MethodName) prog_36_method_1_code (4 : Nat) (Option.none : Option Jvm.ClassFile.FieldType))] ({ frames := 2, cells := 0, slots := 0, locals := 28 } : Room) #[(.ref a1), (.ref k1), (.ref t1), (.ref ps)] h0 (Q_initT3 Z zc kd0 kd1 kd2 kd3 kd4 kd5 kd6 kd7 kd8 kd9 kd10 kd11 kd12 kd13 kd14 kd15 kd16 kd17 a1 k1 t1 ps h0 n0) := by
  refine CN.of (L0 := #[.val (.ref a1), .val (.ref k1), .val (.ref t1), .val (.ref ps)]) (plainFor_of_name pn_5) (fun m => by first | (simp [entryFrame, mkF, argsToLocals, Value.category]; done) | rfl) ?_
  intro p e s m below meth c s₁ hx hby hml hret hlk hZ hown hnm X0 e0
  have N0 := Fr.nil n0
  have KP0 := Keep.refl h0 [a1]
  have hSt_ := hSt
  obtain ⟨S_cs, n_cs, S_kd0, S_kd1, S_kd2, S_kd3, S_kd4, S_kd5, S_kd6, S_kd7, S_kd8, S_kd9, S_kd10, S_kd11, S_kd12, S_kd13, S_kd14, S_kd15, S_kd16, S_kd17⟩ := hSt_
  show Go p e below _ (s₁.setTop (mkF m 0 #[.val (.ref a1), .val (.ref k1), .val (.ref t1), .val (.ref ps)] []))
  refine Go.step (fun _ k => XS.aloadN X0.here hx rfl (hb hby d_prog_36_method_1_code_0) rfl rfl k) ?_
  show Go p e below _ (s₁.setTop (mkF m 1 #[.val (.ref a1), .val (.ref k1), .val (.ref t1), .val (.ref ps)] [(.ref a1)]))
  refine Go.step (fun _ k => XS.aloadN X0.here hx rfl (hb hby d_prog_36_method_1_code_1) rfl rfl k) ?_
  show Go p e below _ (s₁.setTop (mkF m 2 #[.val (.ref a1), .val (.ref k1), .val (.ref t1), .val (.ref ps)] [(.ref k1), (.ref a1)]))
  refine Go.step (fun _ k => XS.aloadN X0.here hx rfl (hb hby d_prog_36_method_1_code_2) rfl rfl k) ?_
  show Go p e below _ (s₁.setTop (mkF m 3 #[.val (.ref a1), .val (.ref k1), .val (.ref t1), .val (.ref ps)] [(.ref t1), (.ref k1), (.ref a1)]))
  refine Go.step (fun _ k => XS.aloadN X0.here hx rfl (hb hby d_prog_36_method_1_code_3) rfl rfl k) ?_
  show Go p e below _ (s₁.setTop (mkF m 4 #[.val (.ref a1), .val (.ref k1), .val (.ref t1), .val (.ref ps)] [(.ref ps), (.ref t1), (.ref k1), (.ref a1)]))
  refine Go.step (fun _ k => XS.iconst X0.here hx rfl (hb hby d_prog_36_method_1_code_4) k) ?_
  show Go p e below _ (s₁.setTop (mkF m 5 #[.val (.ref a1), .val (.ref k1), .val (.ref t1), .val (.ref ps)] [(.int (0 : Int32)), (.ref ps), (.ref t1), (.ref k1), (.ref a1)]))
  obtain ⟨v_110, T_110, L_110, X_110, hQ_110, st_110⟩ := goC X0 hx hZ (y := ({ cls := "com/example/stubwright/stubwright/idl/Token", name := "<init>", desc := "(Lcom/example/stubwright/stubwright/idl/Token$Kind;Ljava/lang/String;Lcom/example/stubwright/stubwright/SourcePosition;Z)V" } : Jvm.MethodName)) hown rfl (wd_80 hw) (wd_81 hw) (wd_82 hw) (by decide) (backOf (W := 0) (rm_initT4 l Z a0 hw zc kd0 kd1 kd2 kd3 kd4 kd5 kd6 kd7 kd8 kd9 kd10 kd11 kd12 kd13 kd14 kd15 kd16 kd17 (a1) (k1) (t1) (ps) ((0 : Int32)) h0 n0 (Nat.le_trans Z0 KP0.1) E_a1 g_a1 F_kind F_text F_position F_escaped (by decide) hSt hO) hZ (wd_82 hw) (wd_75 hw) (by decide) (by decide)) e0 (g := (mkF m 5 #[.val (.ref a1), .val (.ref k1), .val (.ref t1), .val (.ref ps)] [(.int (0 : Int32)), (.ref ps), (.ref t1), (.ref k1), (.ref a1)])) rfl (by rw [hml]; rfl) (a := a1) (argsL := [(.ref k1), (.ref t1), (.ref ps), (.int (0 : Int32))]) (rest := []) rfl (lenOf pd_6 rfl) rfl (by show 2 * 0 + _ ≤ _; exact Nat.le_of_eq rfl) (hb hby d_prog_36_method_1_code_5) (by decide) (by decide)
  obtain ⟨rfl, Nq_110, K_110, u0_110, u1_110, u2_110, u3_110⟩ := hQ_110
  have N_110 := Fr.app N0 Nq_110
  have le_110 : h0.size ≤ T_110.heap.size := K_110.1
  have KP_110 := KP0.trans K_110 (allS (Or.inl (List.mem_of_getElem? (i := 0) rfl)) all0)
  have O_110 := hO.keep K_110 (allS g_a1 all0)
  refine Go.step st_110 ?_
  show Go p e below _ (T_110.setTop (mkF m 8 #[.val (.ref a1), .val (.ref k1), .val (.ref t1), .val (.ref ps)] []))
  exact Go.ret0 X_110 hx hlk hret (hb hby d_prog_36_method_1_code_8) (by decide) (by decide) (by exact ⟨rfl, N_110, KP_110, u0_110, u1_110, u2_110, u3_110⟩)
--@E
--@C escId
def Q_escId (Z : State) (zc : Int32) (kd0 : Addr) (kd1 : Addr) (kd2 : Addr) (kd3 : Addr) (kd4 : Addr) (kd5 : Addr) (kd6 : Addr) (kd7 : Addr) (kd8 : Addr) (kd9 : Addr) (kd10 : Addr) (kd11 : Addr) (kd12 : Addr) (kd13 : Addr) (kd14 : Addr) (kd15 : Addr) (kd16 : Addr) (kd17 : Addr) (t1 : Addr) (ps : Addr) (h0 : Heap) (n0 : Nat) (v : Option Value) (h : Heap) (L : List Loc) : Prop := ∃ (r : Addr), v = some (.ref r) ∧ Fr n0 L ∧ Keep h0 h [] ∧ h0.size ≤ r ∧ Exa Z h r "com/example/stubwright/stubwright/idl/Token" ∧ Fld Z h r "com/example/stubwright/stubwright/idl/Token" "kind" "Lcom/example/stubwright/stubwright/idl/Token$Kind;" (.ref kd0) ∧ Fld Z h r "com/example/stubwright/stubwright/idl/Token" "text" "Ljava/lang/String;" (.ref t1) ∧ Fld Z h r "com/example/stubwright/stubwright/idl/Token" "position" "Lcom/example/stubwright/stubwright/SourcePosition;" (.ref ps) ∧ Fld Z h r "com/example/stubwright/stubwright/idl/Token" "escaped" "Z" (.int (1 : Int32))
set_option maxRecDepth 65536 in
set_option maxHeartbeats 40000000 in
theorem rm_escId (l : Launch) (Z : State) (a0 : Array Value) (hw : ∀ d ∈ tables_1, d.before a0 Z = true) (zc : Int32) (kd0 : Addr) (kd1 : Addr) (kd2 : Addr) (kd3 : Addr) (kd4 : Addr) (kd5 : Addr) (kd6 : Addr) (kd7 : Addr) (kd8 : Addr) (kd9 : Addr) (kd10 : Addr) (kd11 : Addr) (kd12 : Addr) (kd13 : Addr) (kd14 : Addr) (kd15 : Addr) (kd16 : Addr) (kd17 : Addr) (t1 : Addr) (ps : Addr) (h0 : Heap) (n0 : Nat) (Z0 : n0 ≤ h0.size) (hSt : St Z zc kd0 kd1 kd2 kd3 kd4 kd5 kd6 kd7 kd8 kd9 kd10 kd11 kd12 kd13 kd14 kd15 kd16 kd17) (hO : Old Z n0 h0) :
    CN l Z ({ cls := "com/example/stubwright/stubwright/idl/Token", name := "escapedIdentifier", desc := "(Ljava/lang/String;Lcom/example/stubwright/stubwright/SourcePosition;)Lcom/example/stubwright/stubwright/idl/Token;" } : Jvm.MethodName) [(Jvm.Cond.code ({ cls := "com/example/stubwright/stubwright/idl/Token", name := "escapedIdentifier", desc := "(Ljava/lang/String;Lcom/example/stubwright/stubwright/SourcePosition;)Lcom/example/stubwright/stubwright/idl/Token;" } : Jvm.MethodName) prog_36_method_3_code (2 : Nat) (Option.some (Jvm.ClassFile.FieldType.object "com/example/stubwright/stubwright/idl/Token")))] ({ frames := 2, cells := 1, slots := 4, locals := 29 } : Room) #[(.ref t1), (.ref ps)] h0 (Q_escId Z zc kd0 kd1 kd2 kd3 kd4 kd5 kd6 kd7 kd8 kd9 kd10 kd11 kd12 kd13 kd14 kd15 kd16 kd17 t1 ps h0 n0) := by
  refine CN.of (L0 := #[.val (.ref t1), .val (.ref ps)]) (plainFor_of_name pn_5) (fun m => by first | (simp [entryFrame, mkF, argsToLocals, Value.category]; done) | rfl) ?_
  intro p e s m below meth c s₁ hx hby hml hret hlk hZ hown hnm X0 e0
  have N0 := Fr.nil n0
  have KP0 := Keep.refl h0 []
  have hSt_ := hSt
  obtain ⟨S_cs, n_cs, S_kd0, S_kd1, S_kd2, S_kd3, S_kd4, S_kd5, S_kd6, S_kd7, S_kd8, S_kd9, S_kd10, S_kd11, S_kd12, S_kd13, S_kd14, S_kd15, S_kd16, S_kd17⟩ := hSt_
  show Go p e below _ (s₁.setTop (mkF m 0 #[.val (.ref t1), .val (.ref ps)] []))
  obtain ⟨T_111, h_111, X_111, e_111, E_111, A_111, D_111, -, st_111⟩ := newO X0 hx hZ hown (wd_77 hw) (wd_78 hw) (wd_75 hw) e0 (g := (mkF m 0 #[.val (.ref t1), .val (.ref ps)] [])) rfl (hb hby d_prog_36_method_3_code_0) (by decide) (by decide)
  obtain ⟨b111, q_111⟩ : ∃ z, z = h0.size := ⟨_, rfl⟩
  rw [← q_111] at A_111 D_111 st_111
  refine Go.step st_111 ?_
  have le_111 : h0.size ≤ h_111.size := E_111.1
  have KP_111 := KP0.ext E_111
  have O_111 := hO.ext E_111
  have ge_111 : h0.size ≤ b111 := Nat.le_of_eq q_111.symm
  have sz_b111 : h0.size ≤ b111 := Nat.le_trans (Nat.le_refl _) ge_111
  have g_b111 : n0 ≤ b111 := Nat.le_trans Z0 sz_b111
  have F_111_85 : Fld Z h_111 b111 "com/example/stubwright/stubwright/idl/Token" "kind" "Lcom/example/stubwright/stubwright/idl/Token$Kind;" .null := D_111 (Or.inr (wd_85 hw)) (ty := (.object "com/example/stubwright/stubwright/idl/Token$Kind")) pf_4
  have F_111_87 : Fld Z h_111 b111 "com/example/stubwright/stubwright/idl/Token" "text" "Ljava/lang/String;" .null := D_111 (Or.inr (wd_87 hw)) (ty := (.object "java/lang/String")) pf_2
  have F_111_89 : Fld Z h_111 b111 "com/example/stubwright/stubwright/idl/Token" "position" "Lcom/example/stubwright/stubwright/SourcePosition;" .null := D_111 (Or.inr (wd_89 hw)) (ty := (.object "com/example/stubwright/stubwright/SourcePosition")) pf_5
  have F_111_91 : Fld Z h_111 b111 "com/example/stubwright/stubwright/idl/Token" "escaped" "Z" (.int (0 : Int32)) := D_111 (Or.inr (wd_91 hw)) (ty := .boolean) pf_6
  show Go p e below _ (T_111.setTop (mkF m 3 #[.val (.ref t1), .val (.ref ps)] [(.ref b111)]))
  refine Go.step (fun _ k => XS.dup X_111.here hx rfl (hb hby d_prog_36_method_3_code_3) rfl rfl k) ?_
  show Go p e below _ (T_111.setTop (mkF m 4 #[.val (.ref t1), .val (.ref ps)] [(.ref b111), (.ref b111)]))
  obtain ⟨T_112, X_112, e_112, st_112⟩ := getS2 X_111 hx hZ hown (host := "") (Or.inl (wd_79 hw)) Via.refl e_111 (S_kd0.ext O_111.2) (g := (mkF m 4 #[.val (.ref t1), .val (.ref ps)] [(.ref b111), (.ref b111)])) rfl (hb hby d_prog_36_method_3_code_4)
  refine Go.step st_112 ?_
  show Go p e below _ (T_112.setTop (mkF m 7 #[.val (.ref t1), .val (.ref ps)] [(.ref kd0), (.ref b111), (.ref b111)]))
  refine Go.step (fun _ k => XS.aloadN X_112.here hx rfl (hb hby d_prog_36_method_3_code_7) rfl rfl k) ?_
  show Go p e below _ (T_112.setTop (mkF m 8 #[.val (.ref t1), .val (.ref ps)] [(.ref t1), (.ref kd0), (.ref b111), (.ref b111)]))
  refine Go.step (fun _ k => XS.aloadN X_112.here hx rfl (hb hby d_prog_36_method_3_code_8) rfl rfl k) ?_
  show Go p e below _ (T_112.setTop (mkF m 9 #[.val (.ref t1), .val (.ref ps)] [(.ref ps), (.ref t1), (.ref kd0), (.ref b111), (.ref b111)]))
  refine Go.step (fun _ k => XS.iconst X_112.here hx rfl (hb hby d_prog_36_method_3_code_9) k) ?_
  show Go p e below _ (T_112.setTop (mkF m 10 #[.val (.ref t1), .val (.ref ps)] [(.int (1 : Int32)), (.ref ps), (.ref t1), (.ref kd0), (.ref b111), (.ref b111)]))
  obtain ⟨v_113, T_113, L_113, X_113, hQ_113, st_113⟩ := goC X_112 hx hZ (y := ({ cls := "com/example/stubwright/stubwright/idl/Token", name := "<init>", desc := "(Lcom/example/stubwright/stubwright/idl/Token$Kind;Ljava/lang/String;Lcom/example/stubwright/stubwright/SourcePosition;Z)V" } : Jvm.MethodName)) hown rfl (wd_80 hw) (wd_81 hw) (wd_82 hw) (by decide) (backOf (W := 1) (rm_initT4 l Z a0 hw zc kd0 kd1 kd2 kd3 kd4 kd5 kd6 kd7 kd8 kd9 kd10 kd11 kd12 kd13 kd14 kd15 kd16 kd17 (b111) (kd0) (t1) (ps) ((1 : Int32)) h_111 n0 (Nat.le_trans Z0 KP_111.1) A_111 g_b111 F_111_85 F_111_87 F_111_89 F_111_91 (by decide) hSt O_111) hZ (wd_82 hw) (wd_75 hw) (by decide) (by decide)) e_112 (g := (mkF m 10 #[.val (.ref t1), .val (.ref ps)] [(.int (1 : Int32)), (.ref ps), (.ref t1), (.ref kd0), (.ref b111), (.ref b111)])) rfl (by rw [hml]; rfl) (a := b111) (argsL := [(.ref kd0), (.ref t1), (.ref ps), (.int (1 : Int32))]) (rest := [(.ref b111)]) rfl (lenOf pd_6 rfl) rfl (by show 2 * 0 + _ ≤ _; exact Nat.le_of_eq rfl) (hb hby d_prog_36_method_3_code_10) (by decide) (by decide)
  obtain ⟨rfl, Nq_113, K_113, u0_113, u1_113, u2_113, u3_113⟩ := hQ_113
  have N_113 := Fr.app N0 Nq_113
  have le_113 : h_111.size ≤ T_113.heap.size := K_113.1
  have KP_113 := KP_111.trans K_113 (allS (Or.inr sz_b111) all0)
  have O_113 := O_111.keep K_113 (allS g_b111 all0)
  refine Go.step st_113 ?_
  show Go p e below _ (T_113.setTop (mkF m 13 #[.val (.ref t1), .val (.ref ps)] [(.ref b111)]))
  have f114 : Exa Z T_113.heap b111 "com/example/stubwright/stubwright/idl/Token" := (A_111.keep K_113)
  exact Go.retV X_113 hx hlk hret rfl (Or.inr (Or.inr (Or.inr (Or.inr ⟨rfl, rfl, rfl⟩)))) (hb hby d_prog_36_method_3_code_13) (by decide) (by decide) (by exact ⟨b111, rfl, N_113, KP_113, sz_b111, f114, u0_113, u1_113, u2_113, u3_113⟩)
--@E
--@C movedTo
def Q_movedTo (Z : State) (zc : Int32) (kd0 : Addr) (kd1 : Addr) (kd2 : Addr) (kd3 : Addr) (kd4 : Addr) (kd5 : Addr) (kd6 : Addr) (kd7 : Addr) (kd8 : Addr) (kd9 : Addr) (kd10 : Addr) (kd11 : Addr) (kd12 : Addr) (kd13 : Addr) (kd14 : Addr) (kd15 : Addr) (kd16 : Addr) (kd17 : Addr) (a1 : Addr) (k1 : Addr) (t1 : Addr) (e1 : Int32) (p2 : Addr) (h0 : Heap) (n0 : Nat) (v : Option Value) (h : Heap) (L : List Loc) : Prop := ∃ (r : Addr), v = some (.ref r) ∧ Fr n0 L ∧ Keep h0 h [] ∧ h0.size ≤ r ∧ Exa Z h r "com/example/stubwright/stubwright/idl/Token" ∧ Fld Z h r "com/example/stubwright/stubwright/idl/Token" "kind" "Lcom/example/stubwright/stubwright/idl/Token$Kind;" (.ref k1) ∧ Fld Z h r "com/example/stubwright/stubwright/idl/Token" "text" "Ljava/lang/String;" (.ref t1) ∧ Fld Z h r "com/example/stubwright/stubwright/idl/Token" "position" "Lcom/example/stubwright/stubwright/SourcePosition;" (.ref p2) ∧ Fld Z h r "com/example/stubwright/stubwright/idl/Token" "escaped" "Z" (.int e1)
set_option maxRecDepth 65536 in
set_option maxHeartbeats 40000000 in
theorem rm_movedTo (l : Launch) (Z : State) (a0 : Array Value) (hw : ∀ d ∈ tables_1, d.before a0 Z = true) (zc : Int32) (kd0 : Addr) (kd1 : Addr) (kd2 : Addr) (kd3 : Addr) (kd4 : Addr) (kd5 : Addr) (kd6 : Addr) (kd7 : Addr) (kd8 : Addr) (kd9 : Addr) (kd10 : Addr) (kd11 : Addr) (kd12 : Addr) (kd13 : Addr) (kd14 : Addr) (kd15 : Addr) (kd16 : Addr) (kd17 : Addr) (a1 : Addr) (k1 : Addr) (t1 : Addr) (e1 : Int32) (p2 : Addr) (h0 : Heap) (n0 : Nat) (Z0 : n0 ≤ h0.size) (F_k : Fld Z h0 a1 "com/example/stubwright/stubwright/idl/Token" "kind" "Lcom/example/stubwright/stubwright/idl/Token$Kind;" (.ref k1)) (F_t : Fld Z h0 a1 "com/example/stubwright/stubwright/idl/Token" "text" "Ljava/lang/String;" (.ref t1)) (F_e : Fld Z h0 a1 "com/example/stubwright/stubwright/idl/Token" "escaped" "Z" (.int e1)) (he : (e1 = 0 ∨ e1 = 1)) (hSt : St Z zc kd0 kd1 kd2 kd3 kd4 kd5 kd6 kd7 kd8 kd9 kd10 kd11 kd12 kd13 kd14 kd15 kd16 kd17) (hO : Old Z n0 h0) :
    CN l Z ({ cls := "com/example/stubwright/stubwright/idl/Token", name := "movedTo", desc := "(Lcom/example/stubwright/stubwright/SourcePosition;)Lcom/example/stubwright/stubwright/idl/Token;" } : Jvm.MethodName) [(Jvm.Cond.code ({ cls := "com/example/stubwright/stubwright/idl/Token", name := "movedTo", desc := "(Lcom/example/stubwright/stubwright/SourcePosition;)Lcom/example/stubwright/stubwright/idl/Token;" } : Jvm.MethodName) prog_36_method_4_code (2 : Nat) (Option.some (Jvm.ClassFile.FieldType.object "com/example/stubwright/stubwright/idl/Token")))] ({ frames := 2, cells := 1, slots := 4, locals := 29 } : Room) #[(.ref a1), (.ref p2)] h0 (Q_movedTo Z zc kd0 kd1 kd2 kd3 kd4 kd5 kd6 kd7 kd8 kd9 kd10 kd11 kd12 kd13 kd14 kd15 kd16 kd17 a1 k1 t1 e1 p2 h0 n0) := by
  refine CN.of (L0 := #[.val (.ref a1), .val (.ref p2)]) (plainFor_of_name pn_5) (fun m => by first | (simp [entryFrame, mkF, argsToLocals, Value.category]; done) | rfl) ?_
  intro p e s m below meth c s₁ hx hby hml hret hlk hZ hown hnm X0 e0
  have N0 := Fr.nil n0
  have KP0 := Keep.refl h0 []
  have hSt_ := hSt
  obtain ⟨S_cs, n_cs, S_kd0, S_kd1, S_kd2, S_kd3, S_kd4, S_kd5, S_kd6, S_kd7, S_kd8, S_kd9, S_kd10, S_kd11, S_kd12, S_kd13, S_kd14, S_kd15, S_kd16, S_kd17⟩ := hSt_
  show Go p e below _ (s₁.setTop (mkF m 0 #[.val (.ref a1), .val (.ref p2)] []))
  obtain ⟨T_115, h_115, X_115, e_115, E_115, A_115, D_115, -, st_115⟩ := newO X0 hx hZ hown (wd_77 hw) (wd_78 hw) (wd_75 hw) e0 (g := (mkF m 0 #[.val (.ref a1), .val (.ref p2)] [])) rfl (hb hby d_prog_36_method_4_code_0) (by decide) (by decide)
  obtain ⟨b115, q_115⟩ : ∃ z, z = h0.size := ⟨_, rfl⟩
  rw [← q_115] at A_115 D_115 st_115
  refine Go.step st_115 ?_
  have le_115 : h0.size ≤ h_115.size := E_115.1
  have KP_115 := KP0.ext E_115
  have O_115 := hO.ext E_115
  have ge_115 : h0.size ≤ b115 := Nat.le_of_eq q_115.symm
  have sz_b115 : h0.size ≤ b115 := Nat.le_trans (Nat.le_refl _) ge_115
  have g_b115 : n0 ≤ b115 := Nat.le_trans Z0 sz_b115
  have F_115_85 : Fld Z h_115 b115 "com/example/stubwright/stubwright/idl/Token" "kind" "Lcom/example/stubwright/stubwright/idl/Token$Kind;" .null := D_115 (Or.inr (wd_85 hw)) (ty := (.object "com/example/stubwright/stubwright/idl/Token$Kind")) pf_4
  have F_115_87 : Fld Z h_115 b115 "com/example/stubwright/stubwright/idl/Token" "text" "Ljava/lang/String;" .null := D_115 (Or.inr (wd_87 hw)) (ty := (.object "java/lang/String")) pf_2
  have F_115_89 : Fld Z h_115 b115 "com/example/stubwright/stubwright/idl/Token" "position" "Lcom/example/stubwright/stubwright/SourcePosition;" .null := D_115 (Or.inr (wd_89 hw)) (ty := (.object "com/example/stubwright/stubwright/SourcePosition")) pf_5
  have F_115_91 : Fld Z h_115 b115 "com/example/stubwright/stubwright/idl/Token" "escaped" "Z" (.int (0 : Int32)) := D_115 (Or.inr (wd_91 hw)) (ty := .boolean) pf_6
  show Go p e below _ (T_115.setTop (mkF m 3 #[.val (.ref a1), .val (.ref p2)] [(.ref b115)]))
  refine Go.step (fun _ k => XS.dup X_115.here hx rfl (hb hby d_prog_36_method_4_code_3) rfl rfl k) ?_
  show Go p e below _ (T_115.setTop (mkF m 4 #[.val (.ref a1), .val (.ref p2)] [(.ref b115), (.ref b115)]))
  refine Go.step (fun _ k => XS.aloadN X_115.here hx rfl (hb hby d_prog_36_method_4_code_4) rfl rfl k) ?_
  show Go p e below _ (T_115.setTop (mkF m 5 #[.val (.ref a1), .val (.ref p2)] [(.ref a1), (.ref b115), (.ref b115)]))
  have f116 : Fld Z h_115 a1 "com/example/stubwright/stubwright/idl/Token" "kind" "Lcom/example/stubwright/stubwright/idl/Token$Kind;" (.ref k1) := (F_k.ext E_115)
  obtain ⟨T_117, X_117, e_117, st_117⟩ := getF X_115 hx hZ hown (host := "") (Or.inl (wd_84 hw)) Via.refl e_115 f116 (g := (mkF m 5 #[.val (.ref a1), .val (.ref p2)] [(.ref a1), (.ref b115), (.ref b115)])) rfl rfl (hb hby d_prog_36_method_4_code_5)
  refine Go.step st_117 ?_
  show Go p e below _ (T_117.setTop (mkF m 8 #[.val (.ref a1), .val (.ref p2)] [(.ref k1), (.ref b115), (.ref b115)]))
  refine Go.step (fun _ k => XS.aloadN X_117.here hx rfl (hb hby d_prog_36_method_4_code_8) rfl rfl k) ?_
  show Go p e below _ (T_117.setTop (mkF m 9 #[.val (.ref a1), .val (.ref p2)] [(.ref a1), (.ref k1), (.ref b115), (.ref b115)]))
  have f118 : Fld Z h_115 a1 "com/example/stubwright/stubwright/idl/Token" "text" "Ljava/lang/String;" (.ref t1) := (F_t.ext E_115)
  obtain ⟨T_119, X_119, e_119, st_119⟩ := getF X_117 hx hZ hown (host := "") (Or.inl (wd_86 hw)) Via.refl e_117 f118 (g := (mkF m 9 #[.val (.ref a1), .val (.ref p2)] [(.ref a1), (.ref k1), (.ref b115), (.ref b115)])) rfl rfl (hb hby d_prog_36_method_4_code_9)
  refine Go.step st_119 ?_
  show Go p e below _ (T_119.setTop (mkF m 12 #[.val (.ref a1), .val (.ref p2)] [(.ref t1), (.ref k1), (.ref b115), (.ref b115)]))
  refine Go.step (fun _ k => XS.aloadN X_119.here hx rfl (hb hby d_prog_36_method_4_code_12) rfl rfl k) ?_
  show Go p e below _ (T_119.setTop (mkF m 13 #[.val (.ref a1), .val (.ref p2)] [(.ref p2), (.ref t1), (.ref k1), (.ref b115), (.ref b115)]))
  refine Go.step (fun _ k => XS.aloadN X_119.here hx rfl (hb hby d_prog_36_method_4_code_13) rfl rfl k) ?_
  show Go p e below _ (T_119.setTop (mkF m 14 #[.val (.ref a1), .val (.ref p2)] [(.ref a1), (.ref p2), (.ref t1), (.ref k1), (.ref b115), (.ref b115)]))
  have f120 : Fld Z h_115 a1 "com/example/stubwright/stubwright/idl/Token" "escaped" "Z" (.int e1) := (F_e.ext E_115)
  obtain ⟨T_121, X_121, e_121, st_121⟩ := getF X_119 hx hZ hown (host := "") (Or.inl (wd_90 hw)) Via.refl e_119 f120 (g := (mkF m 14 #[.val (.ref a1), .val (.ref p2)] [(.ref a1), (.ref p2), (.ref t1), (.ref k1), (.ref b115), (.ref b115)])) rfl rfl (hb hby d_prog_36_method_4_code_14)
  refine Go.step st_121 ?_
  show Go p e below _ (T_121.setTop (mkF m 17 #[.val (.ref a1), .val (.ref p2)] [(.int e1), (.ref p2), (.ref t1), (.ref k1), (.ref b115), (.ref b115)]))
  obtain ⟨v_122, T_122, L_122, X_122, hQ_122, st_122⟩ := goC X_121 hx hZ (y := ({ cls := "com/example/stubwright/stubwright/idl/Token", name := "<init>", desc := "(Lcom/example/stubwright/stubwright/idl/Token$Kind;Ljava/lang/String;Lcom/example/stubwright/stubwright/SourcePosition;Z)V" } : Jvm.MethodName)) hown rfl (wd_80 hw) (wd_81 hw) (wd_82 hw) (by decide) (backOf (W := 1) (rm_initT4 l Z a0 hw zc kd0 kd1 kd2 kd3 kd4 kd5 kd6 kd7 kd8 kd9 kd10 kd11 kd12 kd13 kd14 kd15 kd16 kd17 (b115) (k1) (t1) (p2) (e1) h_115 n0 (Nat.le_trans Z0 KP_115.1) A_115 g_b115 F_115_85 F_115_87 F_115_89 F_115_91 he hSt O_115) hZ (wd_82 hw) (wd_75 hw) (by decide) (by decide)) e_121 (g := (mkF m 17 #[.val (.ref a1), .val (.ref p2)] [(.int e1), (.ref p2), (.ref t1), (.ref k1), (.ref b115), (.ref b115)])) rfl (by rw [hml]; rfl) (a := b115) (argsL := [(.ref k1), (.ref t1), (.ref p2), (.int e1)]) (rest := [(.ref b115)]) rfl (lenOf pd_6 rfl) rfl (by show 2 * 0 + _ ≤ _; exact Nat.le_of_eq rfl) (hb hby d_prog_36_method_4_code_17) (by decide) (by decide)
  obtain ⟨rfl, Nq_122, K_122, u0_122, u1_122, u2_122, u3_122⟩ := hQ_122
  have N_122 := Fr.app N0 Nq_122
  have le_122 : h_115.size ≤ T_122.heap.size := K_122.1
  have KP_122 := KP_115.trans K_122 (allS (Or.inr sz_b115) all0)
  have O_122 := O_115.keep K_122 (allS g_b115 all0)
  refine Go.step st_122 ?_
  show Go p e below _ (T_122.setTop (mkF m 20 #[.val (.ref a1), .val (.ref p2)] [(.ref b115)]))
  have f123 : Exa Z T_122.heap b115 "com/example/stubwright/stubwright/idl/Token" := (A_115.keep K_122)
  exact Go.retV X_122 hx hlk hret rfl (Or.inr (Or.inr (Or.inr (Or.inr ⟨rfl, rfl, rfl⟩)))) (hb hby d_prog_36_method_4_code_20) (by decide) (by decide) (by exact ⟨b115, rfl, N_122, KP_122, sz_b115, f123, u0_122, u1_122, u2_122, u3_122⟩)
--@E
--@C kind
def Q_kind (Z : State) (zc : Int32) (kd0 : Addr) (kd1 : Addr) (kd2 : Addr) (kd3 : Addr) (kd4 : Addr) (kd5 : Addr) (kd6 : Addr) (kd7 : Addr) (kd8 : Addr) (kd9 : Addr) (kd10 : Addr) (kd11 : Addr) (kd12 : Addr) (kd13 : Addr) (kd14 : Addr) (kd15 : Addr) (kd16 : Addr) (kd17 : Addr) (a1 : Addr) (k1 : Addr) (h0 : Heap) (n0 : Nat) (v : Option Value) (h : Heap) (L : List Loc) : Prop := v = some (.ref k1) ∧ Fr n0 L ∧ h = h0
set_option maxRecDepth 65536 in
set_option maxHeartbeats 40000000 in
theorem rm_kind (l : Launch) (Z : State) (a0 : Array Value) (hw : ∀ d ∈ tables_1, d.before a0 Z = true) (zc : Int32) (kd0 : Addr) (kd1 : Addr) (kd2 : Addr) (kd3 : Addr) (kd4 : Addr) (kd5 : Addr) (kd6 : Addr) (kd7 : Addr) (kd8 : Addr) (kd9 : Addr) (kd10 : Addr) (kd11 : Addr) (kd12 : Addr) (kd13 : Addr) (kd14 : Addr) (kd15 : Addr) (kd16 : Addr) (kd17 : Addr) (a1 : Addr) (k1 : Addr) (h0 : Heap) (n0 : Nat) (Z0 : n0 ≤ h0.size) (F_k : Fld Z h0 a1 "com/example/stubwright/stubwright/idl/Token" "kind" "Lcom/example/stubwright/stubwright/idl/Token$Kind;" (.ref k1)) (hSt : St Z zc kd0 kd1 kd2 kd3 kd4 kd5 kd6 kd7 kd8 kd9 kd10 kd11 kd12 kd13 kd14 kd15 kd16 kd17) (hO : Old Z n0 h0) :
    CN l Z ({ cls := "com/example/stubwright/stubwright/idl/Token", name := "kind", desc := "()Lcom/example/stubwright/stubwright/idl/Token$Kind;" } : Jvm.MethodName) [(Jvm.Cond.code ({ cls := "com/example/stubwright/stubwright/idl/Token", name := "kind", desc := "()Lcom/example/stubwright/stubwright/idl/Token$Kind;" } : Jvm.MethodName) prog_36_method_5_code (1 : Nat) (Option.some (Jvm.ClassFile.FieldType.object "com/example/stubwright/stubwright/idl/Token$Kind")))] ({ frames := 0, cells := 0, slots := 0, locals := 0 } : Room) #[(.ref a1)] h0 (Q_kind Z zc kd0 kd1 kd2 kd3 kd4 kd5 kd6 kd7 kd8 kd9 kd10 kd11 kd12 kd13 kd14 kd15 kd16 kd17 a1 k1 h0 n0) := by
  refine CN.of (L0 := #[.val (.ref a1)]) (plainFor_of_name pn_5) (fun m => by first | (simp [entryFrame, mkF, argsToLocals, Value.category]; done) | rfl) ?_
  intro p e s m below meth c s₁ hx hby hml hret hlk hZ hown hnm X0 e0
  have N0 := Fr.nil n0
  have KP0 := Keep.refl h0 []
  have hSt_ := hSt
  obtain ⟨S_cs, n_cs, S_kd0, S_kd1, S_kd2, S_kd3, S_kd4, S_kd5, S_kd6, S_kd7, S_kd8, S_kd9, S_kd10, S_kd11, S_kd12, S_kd13, S_kd14, S_kd15, S_kd16, S_kd17⟩ := hSt_
  show Go p e below _ (s₁.setTop (mkF m 0 #[.val (.ref a1)] []))
  refine Go.step (fun _ k => XS.aloadN X0.here hx rfl (hb hby d_prog_36_method_5_code_0) rfl rfl k) ?_
  show Go p e below _ (s₁.setTop (mkF m 1 #[.val (.ref a1)] [(.ref a1)]))
  obtain ⟨T_124, X_124, e_124, st_124⟩ := getF X0 hx hZ hown (host := "") (Or.inl (wd_84 hw)) Via.refl e0 F_k (g := (mkF m 1 #[.val (.ref a1)] [(.ref a1)])) rfl rfl (hb hby d_prog_36_method_5_code_1)
  refine Go.step st_124 ?_
  show Go p e below _ (T_124.setTop (mkF m 4 #[.val (.ref a1)] [(.ref k1)]))
  exact Go.retV X_124 hx hlk hret rfl (Or.inr (Or.inr (Or.inr (Or.inr ⟨rfl, rfl, rfl⟩)))) (hb hby d_prog_36_method_5_code_4) (by decide) (by decide) (by rw [e_124]; exact ⟨rfl, N0, rfl⟩)
--@E
--@C text
def Q_text (Z : State) (zc : Int32) (kd0 : Addr) (kd1 : Addr) (kd2 : Addr) (kd3 : Addr) (kd4 : Addr) (kd5 : Addr) (kd6 : Addr) (kd7 : Addr) (kd8 : Addr) (kd9 : Addr) (kd10 : Addr) (kd11 : Addr) (kd12 : Addr) (kd13 : Addr) (kd14 : Addr) (kd15 : Addr) (kd16 : Addr) (kd17 : Addr) (a1 : Addr) (t1 : Addr) (h0 : Heap) (n0 : Nat) (v : Option Value) (h : Heap) (L : List Loc) : Prop := v = some (.ref t1) ∧ Fr n0 L ∧ h = h0
set_option maxRecDepth 65536 in
set_option maxHeartbeats 40000000 in
theorem rm_text (l : Launch) (Z : State) (a0 : Array Value) (hw : ∀ d ∈ tables_1, d.before a0 Z = true) (zc : Int32) (kd0 : Addr) (kd1 : Addr) (kd2 : Addr) (kd3 : Addr) (kd4 : Addr) (kd5 : Addr) (kd6 : Addr) (kd7 : Addr) (kd8 : Addr) (kd9 : Addr) (kd10 : Addr) (kd11 : Addr) (kd12 : Addr) (kd13 : Addr) (kd14 : Addr) (kd15 : Addr) (kd16 : Addr) (kd17 : Addr) (a1 : Addr) (t1 : Addr) (h0 : Heap) (n0 : Nat) (Z0 : n0 ≤ h0.size) (F_t : Fld Z h0 a1 "com/example/stubwright/stubwright/idl/Token" "text" "Ljava/lang/String;" (.ref t1)) (hSt : St Z zc kd0 kd1 kd2 kd3 kd4 kd5 kd6 kd7 kd8 kd9 kd10 kd11 kd12 kd13 kd14 kd15 kd16 kd17) (hO : Old Z n0 h0) :
    CN l Z ({ cls := "com/example/stubwright/stubwright/idl/Token", name := "text", desc := "()Ljava/lang/String;" } : Jvm.MethodName) [(Jvm.Cond.code ({ cls := "com/example/stubwright/stubwright/idl/Token", name := "text", desc := "()Ljava/lang/String;" } : Jvm.MethodName) prog_36_method_6_code (1 : Nat) (Option.some (Jvm.ClassFile.FieldType.object "java/lang/String")))] ({ frames := 0, cells := 0, slots := 0, locals := 0 } : Room) #[(.ref a1)] h0 (Q_text Z zc kd0 kd1 kd2 kd3 kd4 kd5 kd6 kd7 kd8 kd9 kd10 kd11 kd12 kd13 kd14 kd15 kd16 kd17 a1 t1 h0 n0) := by
  refine CN.of (L0 := #[.val (.ref a1)]) (plainFor_of_name pn_5) (fun m => by first | (simp [entryFrame, mkF, argsToLocals, Value.category]; done) | rfl) ?_
  intro p e s m below meth c s₁ hx hby hml hret hlk hZ hown hnm X0 e0
  have N0 := Fr.nil n0
  have KP0 := Keep.refl h0 []
  have hSt_ := hSt
  obtain ⟨S_cs, n_cs, S_kd0, S_kd1, S_kd2, S_kd3, S_kd4, S_kd5, S_kd6, S_kd7, S_kd8, S_kd9, S_kd10, S_kd11, S_kd12, S_kd13, S_kd14, S_kd15, S_kd16, S_kd17⟩ := hSt_
  show Go p e below _ (s₁.setTop (mkF m 0 #[.val (.ref a1)] []))
  refine Go.step (fun _ k => XS.aloadN X0.here hx rfl (hb hby d_prog_36_method_6_code_0) rfl rfl k) ?_
  show Go p e below _ (s₁.setTop (mkF m 1 #[.val (.ref a1)] [(.ref a1)]))
  obtain ⟨T_125, X_125, e_125, st_125⟩ := getF X0 hx hZ hown (host := "") (Or.inl (wd_86 hw)) Via.refl e0 F_t (g := (mkF m 1 #[.val (.ref a1)] [(.ref a1)])) rfl rfl (hb hby d_prog_36_method_6_code_1)
  refine Go.step st_125 ?_
  show Go p e below _ (T_125.setTop (mkF m 4 #[.val (.ref a1)] [(.ref t1)]))
  exact Go.retV X_125 hx hlk hret rfl (Or.inr (Or.inr (Or.inr (Or.inr ⟨rfl, rfl, rfl⟩)))) (hb hby d_prog_36_method_6_code_4) (by decide) (by decide) (by rw [e_125]; exact ⟨rfl, N0, rfl⟩)
--@E
--@C position
def Q_position (Z : State) (zc : Int32) (kd0 : Addr) (kd1 : Addr) (kd2 : Addr) (kd3 : Addr) (kd4 : Addr) (kd5 : Addr) (kd6 : Addr) (kd7 : Addr) (kd8 : Addr) (kd9 : Addr) (kd10 : Addr) (kd11 : Addr) (kd12 : Addr) (kd13 : Addr) (kd14 : Addr) (kd15 : Addr) (kd16 : Addr) (kd17 : Addr) (a1 : Addr) (ps : Addr) (h0 : Heap) (n0 : Nat) (v : Option Value) (h : Heap) (L : List Loc) : Prop := v = some (.ref ps) ∧ Fr n0 L ∧ h = h0
set_option maxRecDepth 65536 in
set_option maxHeartbeats 40000000 in
theorem rm_position (l : Launch) (Z : State) (a0 : Array Value) (hw : ∀ d ∈ tables_1, d.before a0 Z = true) (zc : Int32) (kd0 : Addr) (kd1 : Addr) (kd2 : Addr) (kd3 : Addr) (kd4 : Addr) (kd5 : Addr) (kd6 : Addr) (kd7 : Addr) (kd8 : Addr) (kd9 : Addr) (kd10 : Addr) (kd11 : Addr) (kd12 : Addr) (kd13 : Addr) (kd14 : Addr) (kd15 : Addr) (kd16 : Addr) (kd17 : Addr) (a1 : Addr) (ps : Addr) (h0 : Heap) (n0 : Nat) (Z0 : n0 ≤ h0.size) (F_p : Fld Z h0 a1 "com/example/stubwright/stubwright/idl/Token" "position" "Lcom/example/stubwright/stubwright/SourcePosition;" (.ref ps)) (hSt : St Z zc kd0 kd1 kd2 kd3 kd4 kd5 kd6 kd7 kd8 kd9 kd10 kd11 kd12 kd13 kd14 kd15 kd16 kd17) (hO : Old Z n0 h0) :
    CN l Z ({ cls := "com/example/stubwright/stubwright/idl/Token", name := "position", desc := "()Lcom/example/stubwright/stubwright/SourcePosition;" } : Jvm.MethodName) [(Jvm.Cond.code ({ cls := "com/example/stubwright/stubwright/idl/Token", name := "position", desc := "()Lcom/example/stubwright/stubwright/SourcePosition;" } : Jvm.MethodName) prog_36_method_7_code (1 : Nat) (Option.some (Jvm.ClassFile.FieldType.object "com/example/stubwright/stubwright/SourcePosition")))] ({ frames := 0, cells := 0, slots := 0, locals := 0 } : Room) #[(.ref a1)] h0 (Q_position Z zc kd0 kd1 kd2 kd3 kd4 kd5 kd6 kd7 kd8 kd9 kd10 kd11 kd12 kd13 kd14 kd15 kd16 kd17 a1 ps h0 n0) := by
  refine CN.of (L0 := #[.val (.ref a1)]) (plainFor_of_name pn_5) (fun m => by first | (simp [entryFrame, mkF, argsToLocals, Value.category]; done) | rfl) ?_
  intro p e s m below meth c s₁ hx hby hml hret hlk hZ hown hnm X0 e0
  have N0 := Fr.nil n0
  have KP0 := Keep.refl h0 []
  have hSt_ := hSt
  obtain ⟨S_cs, n_cs, S_kd0, S_kd1, S_kd2, S_kd3, S_kd4, S_kd5, S_kd6, S_kd7, S_kd8, S_kd9, S_kd10, S_kd11, S_kd12, S_kd13, S_kd14, S_kd15, S_kd16, S_kd17⟩ := hSt_
  show Go p e below _ (s₁.setTop (mkF m 0 #[.val (.ref a1)] []))
  refine Go.step (fun _ k => XS.aloadN X0.here hx rfl (hb hby d_prog_36_method_7_code_0) rfl rfl k) ?_
  show Go p e below _ (s₁.setTop (mkF m 1 #[.val (.ref a1)] [(.ref a1)]))
  obtain ⟨T_126, X_126, e_126, st_126⟩ := getF X0 hx hZ hown (host := "") (Or.inl (wd_88 hw)) Via.refl e0 F_p (g := (mkF m 1 #[.val (.ref a1)] [(.ref a1)])) rfl rfl (hb hby d_prog_36_method_7_code_1)
  refine Go.step st_126 ?_
  show Go p e below _ (T_126.setTop (mkF m 4 #[.val (.ref a1)] [(.ref ps)]))
  exact Go.retV X_126 hx hlk hret rfl (Or.inr (Or.inr (Or.inr (Or.inr ⟨rfl, rfl, rfl⟩)))) (hb hby d_prog_36_method_7_code_4) (by decide) (by decide) (by rw [e_126]; exact ⟨rfl, N0, rfl⟩)
--@E
--@C isEsc
def Q_isEsc (Z : State) (zc : Int32) (kd0 : Addr) (kd1 : Addr) (kd2 : Addr) (kd3 : Addr) (kd4 : Addr) (kd5 : Addr) (kd6 : Addr) (kd7 : Addr) (kd8 : Addr) (kd9 : Addr) (kd10 : Addr) (kd11 : Addr) (kd12 : Addr) (kd13 : Addr) (kd14 : Addr) (kd15 : Addr) (kd16 : Addr) (kd17 : Addr) (a1 : Addr) (e1 : Int32) (h0 : Heap) (n0 : Nat) (v : Option Value) (h : Heap) (L : List Loc) : Prop := v = some (.int e1) ∧ Fr n0 L ∧ h = h0
set_option maxRecDepth 65536 in
set_option maxHeartbeats 40000000 in
theorem rm_isEsc (l : Launch) (Z : State) (a0 : Array Value) (hw : ∀ d ∈ tables_1, d.before a0 Z = true) (zc : Int32) (kd0 : Addr) (kd1 : Addr) (kd2 : Addr) (kd3 : Addr) (kd4 : Addr) (kd5 : Addr) (kd6 : Addr) (kd7 : Addr) (kd8 : Addr) (kd9 : Addr) (kd10 : Addr) (kd11 : Addr) (kd12 : Addr) (kd13 : Addr) (kd14 : Addr) (kd15 : Addr) (kd16 : Addr) (kd17 : Addr) (a1 : Addr) (e1 : Int32) (h0 : Heap) (n0 : Nat) (Z0 : n0 ≤ h0.size) (F_e : Fld Z h0 a1 "com/example/stubwright/stubwright/idl/Token" "escaped" "Z" (.int e1)) (he : (e1 = 0 ∨ e1 = 1)) (hSt : St Z zc kd0 kd1 kd2 kd3 kd4 kd5 kd6 kd7 kd8 kd9 kd10 kd11 kd12 kd13 kd14 kd15 kd16 kd17) (hO : Old Z n0 h0) :
    CN l Z ({ cls := "com/example/stubwright/stubwright/idl/Token", name := "isEscaped", desc := "()Z" } : Jvm.MethodName) [(Jvm.Cond.code ({ cls := "com/example/stubwright/stubwright/idl/Token", name := "isEscaped", desc := "()Z" } : Jvm.MethodName) prog_36_method_9_code (1 : Nat) (Option.some Jvm.ClassFile.FieldType.boolean))] ({ frames := 0, cells := 0, slots := 0, locals := 0 } : Room) #[(.ref a1)] h0 (Q_isEsc Z zc kd0 kd1 kd2 kd3 kd4 kd5 kd6 kd7 kd8 kd9 kd10 kd11 kd12 kd13 kd14 kd15 kd16 kd17 a1 e1 h0 n0) := by
  refine CN.of (L0 := #[.val (.ref a1)]) (plainFor_of_name pn_5) (fun m => by first | (simp [entryFrame, mkF, argsToLocals, Value.category]; done) | rfl) ?_
  intro p e s m below meth c s₁ hx hby hml hret hlk hZ hown hnm X0 e0
  have N0 := Fr.nil n0
  have KP0 := Keep.refl h0 []
  have hSt_ := hSt
  obtain ⟨S_cs, n_cs, S_kd0, S_kd1, S_kd2, S_kd3, S_kd4, S_kd5, S_kd6, S_kd7, S_kd8, S_kd9, S_kd10, S_kd11, S_kd12, S_kd13, S_kd14, S_kd15, S_kd16, S_kd17⟩ := hSt_
  show Go p e below _ (s₁.setTop (mkF m 0 #[.val (.ref a1)] []))
  refine Go.step (fun _ k => XS.aloadN X0.here hx rfl (hb hby d_prog_36_method_9_code_0) rfl rfl k) ?_
  show Go p e below _ (s₁.setTop (mkF m 1 #[.val (.ref a1)] [(.ref a1)]))
  obtain ⟨T_127, X_127, e_127, st_127⟩ := getF X0 hx hZ hown (host := "") (Or.inl (wd_90 hw)) Via.refl e0 F_e (g := (mkF m 1 #[.val (.ref a1)] [(.ref a1)])) rfl rfl (hb hby d_prog_36_method_9_code_1)
  refine Go.step st_127 ?_
  show Go p e below _ (T_127.setTop (mkF m 4 #[.val (.ref a1)] [(.int e1)]))
  exact Go.retV X_127 hx hlk hret (nar01 he) (Or.inl ⟨rfl, Or.inr (Or.inl rfl), _, rfl⟩) (hb hby d_prog_36_method_9_code_4) (by decide) (by decide) (by rw [e_127]; exact ⟨rfl, N0, rfl⟩)
--@E
--@C kindOf
def Q_kindOf (Z : State) (zc : Int32) (kd0 : Addr) (kd1 : Addr) (kd2 : Addr) (kd3 : Addr) (kd4 : Addr) (kd5 : Addr) (kd6 : Addr) (kd7 : Addr) (kd8 : Addr) (kd9 : Addr) (kd10 : Addr) (kd11 : Addr) (kd12 : Addr) (kd13 : Addr) (kd14 : Addr) (kd15 : Addr) (kd16 : Addr) (kd17 : Addr) (p1 : Int32) (h0 : Heap) (n0 : Nat) (v : Option Value) (h : Heap) (L : List Loc) : Prop := ∃ (r : Addr), v = some (.ref r) ∧ Fr n0 L ∧ h = h0
set_option maxRecDepth 65536 in
set_option maxHeartbeats 40000000 in
theorem rm_kindOf (l : Launch) (Z : State) (a0 : Array Value) (hw : ∀ d ∈ tables_1, d.before a0 Z = true) (zc : Int32) (kd0 : Addr) (kd1 : Addr) (kd2 : Addr) (kd3 : Addr) (kd4 : Addr) (kd5 : Addr) (kd6 : Addr) (kd7 : Addr) (kd8 : Addr) (kd9 : Addr) (kd10 : Addr) (kd11 : Addr) (kd12 : Addr) (kd13 : Addr) (kd14 : Addr) (kd15 : Addr) (kd16 : Addr) (kd17 : Addr) (p1 : Int32) (h0 : Heap) (n0 : Nat) (Z0 : n0 ≤ h0.size) (hSt : St Z zc kd0 kd1 kd2 kd3 kd4 kd5 kd6 kd7 kd8 kd9 kd10 kd11 kd12 kd13 kd14 kd15 kd16 kd17) (hO : Old Z n0 h0) :
    CN l Z ({ cls := "com/example/stubwright/stubwright/idl/TokenMovedToPinLaw", name := "kindOf", desc := "(I)Lcom/example/stubwright/stubwright/idl/Token$Kind;" } : Jvm.MethodName) [(Jvm.Cond.code ({ cls := "com/example/stubwright/stubwright/idl/TokenMovedToPinLaw", name := "kindOf", desc := "(I)Lcom/example/stubwright/stubwright/idl/Token$Kind;" } : Jvm.MethodName) method_2_code (2 : Nat) (Option.some (Jvm.ClassFile.FieldType.object "com/example/stubwright/stubwright/idl/Token$Kind")))] ({ frames := 0, cells := 0, slots := 0, locals := 0 } : Room) #[(.int p1)] h0 (Q_kindOf Z zc kd0 kd1 kd2 kd3 kd4 kd5 kd6 kd7 kd8 kd9 kd10 kd11 kd12 kd13 kd14 kd15 kd16 kd17 p1 h0 n0) := by
  refine CN.of (L0 := #[.val (.int p1), .unset]) (plainFor_of_name pn_1) (fun m => by first | (simp [entryFrame, mkF, argsToLocals, Value.category]; done) | rfl) ?_
  intro p e s m below meth c s₁ hx hby hml hret hlk hZ hown hnm X0 e0
  have N0 := Fr.nil n0
  have KP0 := Keep.refl h0 []
  have hSt_ := hSt
  obtain ⟨S_cs, n_cs, S_kd0, S_kd1, S_kd2, S_kd3, S_kd4, S_kd5, S_kd6, S_kd7, S_kd8, S_kd9, S_kd10, S_kd11, S_kd12, S_kd13, S_kd14, S_kd15, S_kd16, S_kd17⟩ := hSt_
  show Go p e below _ (s₁.setTop (mkF m 0 #[.val (.int p1), .unset] []))
  refine Go.step (fun _ k => XS.iloadN X0.here hx rfl (hb hby d_method_2_code_0) rfl  k) ?_
  show Go p e below _ (s₁.setTop (mkF m 1 #[.val (.int p1), .unset] [(.int p1)]))
  refine Go.step (fun _ k => X0.ldcInt hx hown (mvT hZ (wd_126 hw)) (g := (mkF m 1 #[.val (.int p1), .unset] [(.int p1)])) rfl (hb hby d_method_2_code_1) _ k) ?_
  show Go p e below _ (s₁.setTop (mkF m 3 #[.val (.int p1), .unset] [(.int (2147483647 : Int32)), (.int p1)]))
  refine Go.step (fun _ k => XS.iand X0.here hx rfl (hb hby d_method_2_code_3) rfl k) ?_
  show Go p e below _ (s₁.setTop (mkF m 4 #[.val (.int p1), .unset] [(.int (p1 &&& (2147483647 : Int32)))]))
  refine Go.step (fun _ k => XS.bipush X0.here hx rfl (hb hby d_method_2_code_4) k) ?_
  show Go p e below _ (s₁.setTop (mkF m 6 #[.val (.int p1), .unset] [(.int (18 : Int32)), (.int (p1 &&& (2147483647 : Int32)))]))
  refine Go.step (fun _ k => iremM X0 hx rfl (hb hby d_method_2_code_6) rfl (by decide) k) ?_
  show Go p e below _ (s₁.setTop (mkF m 7 #[.val (.int p1), .unset] [(.int ((p1 &&& (2147483647 : Int32)) % (18 : Int32)))]))
  refine Go.step (fun _ k => XS.istoreN X0.here hx rfl (hb hby d_method_2_code_7) rfl (l' := #[.val (.int p1), .val (.int ((p1 &&& (2147483647 : Int32)) % (18 : Int32)))]) rfl k) ?_
  show Go p e below _ (s₁.setTop (mkF m 8 #[.val (.int p1), .val (.int ((p1 &&& (2147483647 : Int32)) % (18 : Int32)))] []))
  obtain ⟨kk, h_kk⟩ : ∃ z, z = ((p1 &&& (2147483647 : Int32)) % (18 : Int32)) := ⟨_, rfl⟩
  rw [← h_kk]
  show Go p e below _ (s₁.setTop (mkF m 8 #[.val (.int p1), .val (.int kk)] []))
  have h_k18 : 0 ≤ kk.toInt ∧ kk.toInt < 18 := by rw [h_kk]; exact rem18 _
  clear h_kk
  show Go p e below _ (s₁.setTop (mkF m 8 #[.val (.int p1), .val (.int kk)] []))
  refine Go.step (fun _ k => XS.iloadN X0.here hx rfl (hb hby d_method_2_code_8) rfl  k) ?_
  show Go p e below _ (s₁.setTop (mkF m 9 #[.val (.int p1), .val (.int kk)] [(.int kk)]))
  rcases range18 h_k18 with rfl | rfl | rfl | rfl | rfl | rfl | rfl | rfl | rfl | rfl | rfl | rfl | rfl | rfl | rfl | rfl | rfl | rfl
  · skip
    show Go p e below _ (s₁.setTop (mkF m 9 #[.val (.int p1), .val (.int (0 : Int32))] [(.int (0 : Int32))]))
    refine Go.step (fun _ k => XS.tswIn X0.here hx rfl (pc0 := 9) (pc' := 92) (o := 83) rfl (hb hby d_method_2_code_9) (i := (0 : Int32)) rfl (by decide) (by decide) (by decide) (by decide) k) ?_
    show Go p e below _ (s₁.setTop (mkF m 92 #[.val (.int p1), .val (.int (0 : Int32))] []))
    obtain ⟨T_128, X_128, e_128, st_128⟩ := getS2 X0 hx hZ hown (host := "") (Or.inl (wd_70 hw)) Via.refl e0 (S_kd0.ext hO.2) (g := (mkF m 92 #[.val (.int p1), .val (.int (0 : Int32))] [])) rfl (hb hby d_method_2_code_92)
    refine Go.step st_128 ?_
    show Go p e below _ (T_128.setTop (mkF m 95 #[.val (.int p1), .val (.int (0 : Int32))] [(.ref kd0)]))
    exact Go.retV X_128 hx hlk hret rfl (Or.inr (Or.inr (Or.inr (Or.inr ⟨rfl, rfl, rfl⟩)))) (hb hby d_method_2_code_95) (by decide) (by decide) (by rw [e_128]; exact ⟨kd0, rfl, N0, rfl⟩)
  · skip
    show Go p e below _ (s₁.setTop (mkF m 9 #[.val (.int p1), .val (.int (1 : Int32))] [(.int (1 : Int32))]))
    refine Go.step (fun _ k => XS.tswIn X0.here hx rfl (pc0 := 9) (pc' := 96) (o := 87) rfl (hb hby d_method_2_code_9) (i := (1 : Int32)) rfl (by decide) (by decide) (by decide) (by decide) k) ?_
    show Go p e below _ (s₁.setTop (mkF m 96 #[.val (.int p1), .val (.int (1 : Int32))] []))
    obtain ⟨T_129, X_129, e_129, st_129⟩ := getS2 X0 hx hZ hown (host := "") (Or.inl (wd_153 hw)) Via.refl e0 (S_kd1.ext hO.2) (g := (mkF m 96 #[.val (.int p1), .val (.int (1 : Int32))] [])) rfl (hb hby d_method_2_code_96)
    refine Go.step st_129 ?_
    show Go p e below _ (T_129.setTop (mkF m 99 #[.val (.int p1), .val (.int (1 : Int32))] [(.ref kd1)]))
    exact Go.retV X_129 hx hlk hret rfl (Or.inr (Or.inr (Or.inr (Or.inr ⟨rfl, rfl, rfl⟩)))) (hb hby d_method_2_code_99) (by decide) (by decide) (by rw [e_129]; exact ⟨kd1, rfl, N0, rfl⟩)
  · skip
    show Go p e below _ (s₁.setTop (mkF m 9 #[.val (.int p1), .val (.int (2 : Int32))] [(.int (2 : Int32))]))
    refine Go.step (fun _ k => XS.tswIn X0.here hx rfl (pc0 := 9) (pc' := 100) (o := 91) rfl (hb hby d_method_2_code_9) (i := (2 : Int32)) rfl (by decide) (by decide) (by decide) (by decide) k) ?_
    show Go p e below _ (s₁.setTop (mkF m 100 #[.val (.int p1), .val (.int (2 : Int32))] []))
    obtain ⟨T_130, X_130, e_130, st_130⟩ := getS2 X0 hx hZ hown (host := "") (Or.inl (wd_145 hw)) Via.refl e0 (S_kd2.ext hO.2) (g := (mkF m 100 #[.val (.int p1), .val (.int (2 : Int32))] [])) rfl (hb hby d_method_2_code_100)
    refine Go.step st_130 ?_
    show Go p e below _ (T_130.setTop (mkF m 103 #[.val (.int p1), .val (.int (2 : Int32))] [(.ref kd2)]))
    exact Go.retV X_130 hx hlk hret rfl (Or.inr (Or.inr (Or.inr (Or.inr ⟨rfl, rfl, rfl⟩)))) (hb hby d_method_2_code_103) (by decide) (by decide) (by rw [e_130]; exact ⟨kd2, rfl, N0, rfl⟩)
  · skip
    show Go p e below _ (s₁.setTop (mkF m 9 #[.val (.int p1), .val (.int (3 : Int32))] [(.int (3 : Int32))]))
    refine Go.step (fun _ k => XS.tswIn X0.here hx rfl (pc0 := 9) (pc' := 104) (o := 95) rfl (hb hby d_method_2_code_9) (i := (3 : Int32)) rfl (by decide) (by decide) (by decide) (by decide) k) ?_
    show Go p e below _ (s₁.setTop (mkF m 104 #[.val (.int p1), .val (.int (3 : Int32))] []))
    obtain ⟨T_131, X_131, e_131, st_131⟩ := getS2 X0 hx hZ hown (host := "") (Or.inl (wd_149 hw)) Via.refl e0 (S_kd3.ext hO.2) (g := (mkF m 104 #[.val (.int p1), .val (.int (3 : Int32))] [])) rfl (hb hby d_method_2_code_104)
    refine Go.step st_131 ?_
    show Go p e below _ (T_131.setTop (mkF m 107 #[.val (.int p1), .val (.int (3 : Int32))] [(.ref kd3)]))
    exact Go.retV X_131 hx hlk hret rfl (Or.inr (Or.inr (Or.inr (Or.inr ⟨rfl, rfl, rfl⟩)))) (hb hby d_method_2_code_107) (by decide) (by decide) (by rw [e_131]; exact ⟨kd3, rfl, N0, rfl⟩)
  · skip
    show Go p e below _ (s₁.setTop (mkF m 9 #[.val (.int p1), .val (.int (4 : Int32))] [(.int (4 : Int32))]))
    refine Go.step (fun _ k => XS.tswIn X0.here hx rfl (pc0 := 9) (pc' := 108) (o := 99) rfl (hb hby d_method_2_code_9) (i := (4 : Int32)) rfl (by decide) (by decide) (by decide) (by decide) k) ?_
    show Go p e below _ (s₁.setTop (mkF m 108 #[.val (.int p1), .val (.int (4 : Int32))] []))
    obtain ⟨T_132, X_132, e_132, st_132⟩ := getS2 X0 hx hZ hown (host := "") (Or.inl (wd_147 hw)) Via.refl e0 (S_kd4.ext hO.2) (g := (mkF m 108 #[.val (.int p1), .val (.int (4 : Int32))] [])) rfl (hb hby d_method_2_code_108)
    refine Go.step st_132 ?_
    show Go p e below _ (T_132.setTop (mkF m 111 #[.val (.int p1), .val (.int (4 : Int32))] [(.ref kd4)]))
    exact Go.retV X_132 hx hlk hret rfl (Or.inr (Or.inr (Or.inr (Or.inr ⟨rfl, rfl, rfl⟩)))) (hb hby d_method_2_code_111) (by decide) (by decide) (by rw [e_132]; exact ⟨kd4, rfl, N0, rfl⟩)
  · skip
    show Go p e below _ (s₁.setTop (mkF m 9 #[.val (.int p1), .val (.int (5 : Int32))] [(.int (5 : Int32))]))
    refine Go.step (fun _ k => XS.tswIn X0.here hx rfl (pc0 := 9) (pc' := 112) (o := 103) rfl (hb hby d_method_2_code_9) (i := (5 : Int32)) rfl (by decide) (by decide) (by decide) (by decide) k) ?_
    show Go p e below _ (s₁.setTop (mkF m 112 #[.val (.int p1), .val (.int (5 : Int32))] []))
    obtain ⟨T_133, X_133, e_133, st_133⟩ := getS2 X0 hx hZ hown (host := "") (Or.inl (wd_127 hw)) Via.refl e0 (S_kd5.ext hO.2) (g := (mkF m 112 #[.val (.int p1), .val (.int (5 : Int32))] [])) rfl (hb hby d_method_2_code_112)
    refine Go.step st_133 ?_
    show Go p e below _ (T_133.setTop (mkF m 115 #[.val (.int p1), .val (.int (5 : Int32))] [(.ref kd5)]))
    exact Go.retV X_133 hx hlk hret rfl (Or.inr (Or.inr (Or.inr (Or.inr ⟨rfl, rfl, rfl⟩)))) (hb hby d_method_2_code_115) (by decide) (by decide) (by rw [e_133]; exact ⟨kd5, rfl, N0, rfl⟩)
  · skip
    show Go p e below _ (s₁.setTop (mkF m 9 #[.val (.int p1), .val (.int (6 : Int32))] [(.int (6 : Int32))]))
    refine Go.step (fun _ k => XS.tswIn X0.here hx rfl (pc0 := 9) (pc' := 116) (o := 107) rfl (hb hby d_method_2_code_9) (i := (6 : Int32)) rfl (by decide) (by decide) (by decide) (by decide) k) ?_
    show Go p e below _ (s₁.setTop (mkF m 116 #[.val (.int p1), .val (.int (6 : Int32))] []))
    obtain ⟨T_134, X_134, e_134, st_134⟩ := getS2 X0 hx hZ hown (host := "") (Or.inl (wd_139 hw)) Via.refl e0 (S_kd6.ext hO.2) (g := (mkF m 116 #[.val (.int p1), .val (.int (6 : Int32))] [])) rfl (hb hby d_method_2_code_116)
    refine Go.step st_134 ?_
    show Go p e below _ (T_134.setTop (mkF m 119 #[.val (.int p1), .val (.int (6 : Int32))] [(.ref kd6)]))
    exact Go.retV X_134 hx hlk hret rfl (Or.inr (Or.inr (Or.inr (Or.inr ⟨rfl, rfl, rfl⟩)))) (hb hby d_method_2_code_119) (by decide) (by decide) (by rw [e_134]; exact ⟨kd6, rfl, N0, rfl⟩)
  · skip
    show Go p e below _ (s₁.setTop (mkF m 9 #[.val (.int p1), .val (.int (7 : Int32))] [(.int (7 : Int32))]))
    refine Go.step (fun _ k => XS.tswIn X0.here hx rfl (pc0 := 9) (pc' := 120) (o := 111) rfl (hb hby d_method_2_code_9) (i := (7 : Int32)) rfl (by decide) (by decide) (by decide) (by decide) k) ?_
    show Go p e below _ (s₁.setTop (mkF m 120 #[.val (.int p1), .val (.int (7 : Int32))] []))
    obtain ⟨T_135, X_135, e_135, st_135⟩ := getS2 X0 hx hZ hown (host := "") (Or.inl (wd_157 hw)) Via.refl e0 (S_kd7.ext hO.2) (g := (mkF m 120 #[.val (.int p1), .val (.int (7 : Int32))] [])) rfl (hb hby d_method_2_code_120)
    refine Go.step st_135 ?_
    show Go p e below _ (T_135.setTop (mkF m 123 #[.val (.int p1), .val (.int (7 : Int32))] [(.ref kd7)]))
    exact Go.retV X_135 hx hlk hret rfl (Or.inr (Or.inr (Or.inr (Or.inr ⟨rfl, rfl, rfl⟩)))) (hb hby d_method_2_code_123) (by decide) (by decide) (by rw [e_135]; exact ⟨kd7, rfl, N0, rfl⟩)
  · skip
    show Go p e below _ (s₁.setTop (mkF m 9 #[.val (.int p1), .val (.int (8 : Int32))] [(.int (8 : Int32))]))
    refine Go.step (fun _ k => XS.tswIn X0.here hx rfl (pc0 := 9) (pc' := 124) (o := 115) rfl (hb hby d_method_2_code_9) (i := (8 : Int32)) rfl (by decide) (by decide) (by decide) (by decide) k) ?_
    show Go p e below _ (s₁.setTop (mkF m 124 #[.val (.int p1), .val (.int (8 : Int32))] []))
    obtain ⟨T_136, X_136, e_136, st_136⟩ := getS2 X0 hx hZ hown (host := "") (Or.inl (wd_143 hw)) Via.refl e0 (S_kd8.ext hO.2) (g := (mkF m 124 #[.val (.int p1), .val (.int (8 : Int32))] [])) rfl (hb hby d_method_2_code_124)
    refine Go.step st_136 ?_
    show Go p e below _ (T_136.setTop (mkF m 127 #[.val (.int p1), .val (.int (8 : Int32))] [(.ref kd8)]))
    exact Go.retV X_136 hx hlk hret rfl (Or.inr (Or.inr (Or.inr (Or.inr ⟨rfl, rfl, rfl⟩)))) (hb hby d_method_2_code_127) (by decide) (by decide) (by rw [e_136]; exact ⟨kd8, rfl, N0, rfl⟩)
  · skip
    show Go p e below _ (s₁.setTop (mkF m 9 #[.val (.int p1), .val (.int (9 : Int32))] [(.int (9 : Int32))]))
    refine Go.step (fun _ k => XS.tswIn X0.here hx rfl (pc0 := 9) (pc' := 128) (o := 119) rfl (hb hby d_method_2_code_9) (i := (9 : Int32)) rfl (by decide) (by decide) (by decide) (by decide) k) ?_
    show Go p e below _ (s₁.setTop (mkF m 128 #[.val (.int p1), .val (.int (9 : Int32))] []))
    obtain ⟨T_137, X_137, e_137, st_137⟩ := getS2 X0 hx hZ hown (host := "") (Or.inl (wd_151 hw)) Via.refl e0 (S_kd9.ext hO.2) (g := (mkF m 128 #[.val (.int p1), .val (.int (9 : Int32))] [])) rfl (hb hby d_method_2_code_128)
    refine Go.step st_137 ?_
    show Go p e below _ (T_137.setTop (mkF m 131 #[.val (.int p1), .val (.int (9 : Int32))] [(.ref kd9)]))
    exact Go.retV X_137 hx hlk hret rfl (Or.inr (Or.inr (Or.inr (Or.inr ⟨rfl, rfl, rfl⟩)))) (hb hby d_method_2_code_131) (by decide) (by decide) (by rw [e_137]; exact ⟨kd9, rfl, N0, rfl⟩)
  · skip
    show Go p e below _ (s₁.setTop (mkF m 9 #[.val (.int p1), .val (.int (10 : Int32))] [(.int (10 : Int32))]))
    refine Go.step (fun _ k => XS.tswIn X0.here hx rfl (pc0 := 9) (pc' := 132) (o := 123) rfl (hb hby d_method_2_code_9) (i := (10 : Int32)) rfl (by decide) (by decide) (by decide) (by decide) k) ?_
    show Go p e below _ (s₁.setTop (mkF m 132 #[.val (.int p1), .val (.int (10 : Int32))] []))
    obtain ⟨T_138, X_138, e_138, st_138⟩ := getS2 X0 hx hZ hown (host := "") (Or.inl (wd_161 hw)) Via.refl e0 (S_kd10.ext hO.2) (g := (mkF m 132 #[.val (.int p1), .val (.int (10 : Int32))] [])) rfl (hb hby d_method_2_code_132)
    refine Go.step st_138 ?_
    show Go p e below _ (T_138.setTop (mkF m 135 #[.val (.int p1), .val (.int (10 : Int32))] [(.ref kd10)]))
    exact Go.retV X_138 hx hlk hret rfl (Or.inr (Or.inr (Or.inr (Or.inr ⟨rfl, rfl, rfl⟩)))) (hb hby d_method_2_code_135) (by decide) (by decide) (by rw [e_138]; exact ⟨kd10, rfl, N0, rfl⟩)
  · skip
    show Go p e below _ (s₁.setTop (mkF m 9 #[.val (.int p1), .val (.int (11 : Int32))] [(.int (11 : Int32))]))
    refine Go.step (fun _ k => XS.tswIn X0.here hx rfl (pc0 := 9) (pc' := 136) (o := 127) rfl (hb hby d_method_2_code_9) (i := (11 : Int32)) rfl (by decide) (by decide) (by decide) (by decide) k) ?_
    show Go p e below _ (s₁.setTop (mkF m 136 #[.val (.int p1), .val (.int (11 : Int32))] []))
    obtain ⟨T_139, X_139, e_139, st_139⟩ := getS2 X0 hx hZ hown (host := "") (Or.inl (wd_133 hw)) Via.refl e0 (S_kd11.ext hO.2) (g := (mkF m 136 #[.val (.int p1), .val (.int (11 : Int32))] [])) rfl (hb hby d_method_2_code_136)
    refine Go.step st_139 ?_
    show Go p e below _ (T_139.setTop (mkF m 139 #[.val (.int p1), .val (.int (11 : Int32))] [(.ref kd11)]))
    exact Go.retV X_139 hx hlk hret rfl (Or.inr (Or.inr (Or.inr (Or.inr ⟨rfl, rfl, rfl⟩)))) (hb hby d_method_2_code_139) (by decide) (by decide) (by rw [e_139]; exact ⟨kd11, rfl, N0, rfl⟩)
  · skip
    show Go p e below _ (s₁.setTop (mkF m 9 #[.val (.int p1), .val (.int (12 : Int32))] [(.int (12 : Int32))]))
    refine Go.step (fun _ k => XS.tswIn X0.here hx rfl (pc0 := 9) (pc' := 140) (o := 131) rfl (hb hby d_method_2_code_9) (i := (12 : Int32)) rfl (by decide) (by decide) (by decide) (by decide) k) ?_
    show Go p e below _ (s₁.setTop (mkF m 140 #[.val (.int p1), .val (.int (12 : Int32))] []))
    obtain ⟨T_140, X_140, e_140, st_140⟩ := getS2 X0 hx hZ hown (host := "") (Or.inl (wd_159 hw)) Via.refl e0 (S_kd12.ext hO.2) (g := (mkF m 140 #[.val (.int p1), .val (.int (12 : Int32))] [])) rfl (hb hby d_method_2_code_140)
    refine Go.step st_140 ?_
    show Go p e below _ (T_140.setTop (mkF m 143 #[.val (.int p1), .val (.int (12 : Int32))] [(.ref kd12)]))
    exact Go.retV X_140 hx hlk hret rfl (Or.inr (Or.inr (Or.inr (Or.inr ⟨rfl, rfl, rfl⟩)))) (hb hby d_method_2_code_143) (by decide) (by decide) (by rw [e_140]; exact ⟨kd12, rfl, N0, rfl⟩)
  · skip
    show Go p e below _ (s₁.setTop (mkF m 9 #[.val (.int p1), .val (.int (13 : Int32))] [(.int (13 : Int32))]))
    refine Go.step (fun _ k => XS.tswIn X0.here hx rfl (pc0 := 9) (pc' := 144) (o := 135) rfl (hb hby d_method_2_code_9) (i := (13 : Int32)) rfl (by decide) (by decide) (by decide) (by decide) k) ?_
    show Go p e below _ (s₁.setTop (mkF m 144 #[.val (.int p1), .val (.int (13 : Int32))] []))
    obtain ⟨T_141, X_141, e_141, st_141⟩ := getS2 X0 hx hZ hown (host := "") (Or.inl (wd_137 hw)) Via.refl e0 (S_kd13.ext hO.2) (g := (mkF m 144 #[.val (.int p1), .val (.int (13 : Int32))] [])) rfl (hb hby d_method_2_code_144)
    refine Go.step st_141 ?_
    show Go p e below _ (T_141.setTop (mkF m 147 #[.val (.int p1), .val (.int (13 : Int32))] [(.ref kd13)]))
    exact Go.retV X_141 hx hlk hret rfl (Or.inr (Or.inr (Or.inr (Or.inr ⟨rfl, rfl, rfl⟩)))) (hb hby d_method_2_code_147) (by decide) (by decide) (by rw [e_141]; exact ⟨kd13, rfl, N0, rfl⟩)
  · skip
    show Go p e below _ (s₁.setTop (mkF m 9 #[.val (.int p1), .val (.int (14 : Int32))] [(.int (14 : Int32))]))
    refine Go.step (fun _ k => XS.tswIn X0.here hx rfl (pc0 := 9) (pc' := 148) (o := 139) rfl (hb hby d_method_2_code_9) (i := (14 : Int32)) rfl (by decide) (by decide) (by decide) (by decide) k) ?_
    show Go p e below _ (s₁.setTop (mkF m 148 #[.val (.int p1), .val (.int (14 : Int32))] []))
    obtain ⟨T_142, X_142, e_142, st_142⟩ := getS2 X0 hx hZ hown (host := "") (Or.inl (wd_155 hw)) Via.refl e0 (S_kd14.ext hO.2) (g := (mkF m 148 #[.val (.int p1), .val (.int (14 : Int32))] [])) rfl (hb hby d_method_2_code_148)
    refine Go.step st_142 ?_
    show Go p e below _ (T_142.setTop (mkF m 151 #[.val (.int p1), .val (.int (14 : Int32))] [(.ref kd14)]))
    exact Go.retV X_142 hx hlk hret rfl (Or.inr (Or.inr (Or.inr (Or.inr ⟨rfl, rfl, rfl⟩)))) (hb hby d_method_2_code_151) (by decide) (by decide) (by rw [e_142]; exact ⟨kd14, rfl, N0, rfl⟩)
  · skip
    show Go p e below _ (s₁.setTop (mkF m 9 #[.val (.int p1), .val (.int (15 : Int32))] [(.int (15 : Int32))]))
    refine Go.step (fun _ k => XS.tswIn X0.here hx rfl (pc0 := 9) (pc' := 152) (o := 143) rfl (hb hby d_method_2_code_9) (i := (15 : Int32)) rfl (by decide) (by decide) (by decide) (by decide) k) ?_
    show Go p e below _ (s₁.setTop (mkF m 152 #[.val (.int p1), .val (.int (15 : Int32))] []))
    obtain ⟨T_143, X_143, e_143, st_143⟩ := getS2 X0 hx hZ hown (host := "") (Or.inl (wd_141 hw)) Via.refl e0 (S_kd15.ext hO.2) (g := (mkF m 152 #[.val (.int p1), .val (.int (15 : Int32))] [])) rfl (hb hby d_method_2_code_152)
    refine Go.step st_143 ?_
    show Go p e below _ (T_143.setTop (mkF m 155 #[.val (.int p1), .val (.int (15 : Int32))] [(.ref kd15)]))
    exact Go.retV X_143 hx hlk hret rfl (Or.inr (Or.inr (Or.inr (Or.inr ⟨rfl, rfl, rfl⟩)))) (hb hby d_method_2_code_155) (by decide) (by decide) (by rw [e_143]; exact ⟨kd15, rfl, N0, rfl⟩)
  · skip
    show Go p e below _ (s₁.setTop (mkF m 9 #[.val (.int p1), .val (.int (16 : Int32))] [(.int (16 : Int32))]))
    refine Go.step (fun _ k => XS.tswIn X0.here hx rfl (pc0 := 9) (pc' := 156) (o := 147) rfl (hb hby d_method_2_code_9) (i := (16 : Int32)) rfl (by decide) (by decide) (by decide) (by decide) k) ?_
    show Go p e below _ (s₁.setTop (mkF m 156 #[.val (.int p1), .val (.int (16 : Int32))] []))
    obtain ⟨T_144, X_144, e_144, st_144⟩ := getS2 X0 hx hZ hown (host := "") (Or.inl (wd_163 hw)) Via.refl e0 (S_kd16.ext hO.2) (g := (mkF m 156 #[.val (.int p1), .val (.int (16 : Int32))] [])) rfl (hb hby d_method_2_code_156)
    refine Go.step st_144 ?_
    show Go p e below _ (T_144.setTop (mkF m 159 #[.val (.int p1), .val (.int (16 : Int32))] [(.ref kd16)]))
    exact Go.retV X_144 hx hlk hret rfl (Or.inr (Or.inr (Or.inr (Or.inr ⟨rfl, rfl, rfl⟩)))) (hb hby d_method_2_code_159) (by decide) (by decide) (by rw [e_144]; exact ⟨kd16, rfl, N0, rfl⟩)
  · skip
    show Go p e below _ (s₁.setTop (mkF m 9 #[.val (.int p1), .val (.int (17 : Int32))] [(.int (17 : Int32))]))
    refine Go.step (fun _ k => XS.tswOut X0.here hx rfl (pc0 := 9) (pc' := 160) rfl (hb hby d_method_2_code_9) (i := (17 : Int32)) rfl (by decide) (by decide) (by decide) k) ?_
    show Go p e below _ (s₁.setTop (mkF m 160 #[.val (.int p1), .val (.int (17 : Int32))] []))
    obtain ⟨T_145, X_145, e_145, st_145⟩ := getS2 X0 hx hZ hown (host := "") (Or.inl (wd_135 hw)) Via.refl e0 (S_kd17.ext hO.2) (g := (mkF m 160 #[.val (.int p1), .val (.int (17 : Int32))] [])) rfl (hb hby d_method_2_code_160)
    refine Go.step st_145 ?_
    show Go p e below _ (T_145.setTop (mkF m 163 #[.val (.int p1), .val (.int (17 : Int32))] [(.ref kd17)]))
    exact Go.retV X_145 hx hlk hret rfl (Or.inr (Or.inr (Or.inr (Or.inr ⟨rfl, rfl, rfl⟩)))) (hb hby d_method_2_code_163) (by decide) (by decide) (by rw [e_145]; exact ⟨kd17, rfl, N0, rfl⟩)
--@E
--@C eqSelf
def Q_eqSelf (Z : State) (zc : Int32) (kd0 : Addr) (kd1 : Addr) (kd2 : Addr) (kd3 : Addr) (kd4 : Addr) (kd5 : Addr) (kd6 : Addr) (kd7 : Addr) (kd8 : Addr) (kd9 : Addr) (kd10 : Addr) (kd11 : Addr) (kd12 : Addr) (kd13 : Addr) (kd14 : Addr) (kd15 : Addr) (kd16 : Addr) (kd17 : Addr) (a1 : Addr) (h0 : Heap) (n0 : Nat) (v : Option Value) (h : Heap) (L : List Loc) : Prop := v = some (.int (1 : Int32)) ∧ Fr n0 L ∧ h = h0
set_option maxRecDepth 65536 in
set_option maxHeartbeats 40000000 in
theorem rm_eqSelf (l : Launch) (Z : State) (a0 : Array Value) (hw : ∀ d ∈ tables_1, d.before a0 Z = true) (zc : Int32) (kd0 : Addr) (kd1 : Addr) (kd2 : Addr) (kd3 : Addr) (kd4 : Addr) (kd5 : Addr) (kd6 : Addr) (kd7 : Addr) (kd8 : Addr) (kd9 : Addr) (kd10 : Addr) (kd11 : Addr) (kd12 : Addr) (kd13 : Addr) (kd14 : Addr) (kd15 : Addr) (kd16 : Addr) (kd17 : Addr) (a1 : Addr) (h0 : Heap) (n0 : Nat) (Z0 : n0 ≤ h0.size) (hSt : St Z zc kd0 kd1 kd2 kd3 kd4 kd5 kd6 kd7 kd8 kd9 kd10 kd11 kd12 kd13 kd14 kd15 kd16 kd17) (hO : Old Z n0 h0) :
    CN l Z ({ cls := "java/lang/String", name := "equals", desc := "(Ljava/lang/Object;)Z" } : Jvm.MethodName) [(Jvm.Cond.code ({ cls := "java/lang/String", name := "equals", desc := "(Ljava/lang/Object;)Z" } : Jvm.MethodName) jdk_42_method_66_code (3 : Nat) (Option.some Jvm.ClassFile.FieldType.boolean))] ({ frames := 0, cells := 0, slots := 0, locals := 0 } : Room) #[(.ref a1), (.ref a1)] h0 (Q_eqSelf Z zc kd0 kd1 kd2 kd3 kd4 kd5 kd6 kd7 kd8 kd9 kd10 kd11 kd12 kd13 kd14 kd15 kd16 kd17 a1 h0 n0) := by
  refine CN.of (L0 := #[.val (.ref a1), .val (.ref a1), .unset]) (plainFor_of_name pn_0) (fun m => by first | (simp [entryFrame, mkF, argsToLocals, Value.category]; done) | rfl) ?_
  intro p e s m below meth c s₁ hx hby hml hret hlk hZ hown hnm X0 e0
  have N0 := Fr.nil n0
  have KP0 := Keep.refl h0 []
  have hSt_ := hSt
  obtain ⟨S_cs, n_cs, S_kd0, S_kd1, S_kd2, S_kd3, S_kd4, S_kd5, S_kd6, S_kd7, S_kd8, S_kd9, S_kd10, S_kd11, S_kd12, S_kd13, S_kd14, S_kd15, S_kd16, S_kd17⟩ := hSt_
  show Go p e below _ (s₁.setTop (mkF m 0 #[.val (.ref a1), .val (.ref a1), .unset] []))
  refine Go.step (fun _ k => XS.aloadN X0.here hx rfl (hb hby d_jdk_42_method_66_code_0) rfl rfl k) ?_
  show Go p e below _ (s₁.setTop (mkF m 1 #[.val (.ref a1), .val (.ref a1), .unset] [(.ref a1)]))
  refine Go.step (fun _ k => XS.aloadN X0.here hx rfl (hb hby d_jdk_42_method_66_code_1) rfl rfl k) ?_
  show Go p e below _ (s₁.setTop (mkF m 2 #[.val (.ref a1), .val (.ref a1), .unset] [(.ref a1), (.ref a1)]))
  refine Go.step (fun _ k => Jvm.RoadKit.acmp (g := (mkF m 2 #[.val (.ref a1), .val (.ref a1), .unset] [(.ref a1), (.ref a1)])) X0 hx rfl rfl rfl (pc0 := 2) (pc' := 5) (same := true) rfl (hb hby d_jdk_42_method_66_code_2) rfl (decide_eq_true rfl) (by decide) (by decide) k) ?_
  show Go p e below _ (s₁.setTop (mkF m 5 #[.val (.ref a1), .val (.ref a1), .unset] []))
  refine Go.step (fun _ k => XS.iconst X0.here hx rfl (hb hby d_jdk_42_method_66_code_5) k) ?_
  show Go p e below _ (s₁.setTop (mkF m 6 #[.val (.ref a1), .val (.ref a1), .unset] [(.int (1 : Int32))]))
  exact Go.retV X0 hx hlk hret rfl (Or.inl ⟨rfl, Or.inr (Or.inl rfl), _, rfl⟩) (hb hby d_jdk_42_method_66_code_6) (by decide) (by decide) (by rw [e0]; exact ⟨rfl, N0, rfl⟩)
--@E
--@C law
def Q_law (Z : State) (zc : Int32) (kd0 : Addr) (kd1 : Addr) (kd2 : Addr) (kd3 : Addr) (kd4 : Addr) (kd5 : Addr) (kd6 : Addr) (kd7 : Addr) (kd8 : Addr) (kd9 : Addr) (kd10 : Addr) (kd11 : Addr) (kd12 : Addr) (kd13 : Addr) (kd14 : Addr) (kd15 : Addr) (kd16 : Addr) (kd17 : Addr) (p0 : Int32) (p1 : Int32) (j2 : Int64) (p3 : Int32) (p4 : Int32) (p5 : Int32) (h0 : Heap) (n0 : Nat) (v : Option Value) (h : Heap) (L : List Loc) : Prop := v = some (.int (1 : Int32)) ∧ Fr n0 L
set_option maxRecDepth 65536 in
set_option maxHeartbeats 40000000 in
theorem rm_law (l : Launch) (Z : State) (a0 : Array Value) (hw : ∀ d ∈ tables_1, d.before a0 Z = true) (zc : Int32) (kd0 : Addr) (kd1 : Addr) (kd2 : Addr) (kd3 : Addr) (kd4 : Addr) (kd5 : Addr) (kd6 : Addr) (kd7 : Addr) (kd8 : Addr) (kd9 : Addr) (kd10 : Addr) (kd11 : Addr) (kd12 : Addr) (kd13 : Addr) (kd14 : Addr) (kd15 : Addr) (kd16 : Addr) (kd17 : Addr) (p0 : Int32) (p1 : Int32) (j2 : Int64) (p3 : Int32) (p4 : Int32) (p5 : Int32) (h0 : Heap) (n0 : Nat) (Z0 : n0 ≤ h0.size) (hSt : St Z zc kd0 kd1 kd2 kd3 kd4 kd5 kd6 kd7 kd8 kd9 kd10 kd11 kd12 kd13 kd14 kd15 kd16 kd17) (hO : Old Z n0 h0) :
    CW l Z EL x (Jvm.Cond.code x code maxLocals ret :: tables_1) room_1 #[(.int p0), (.int p1), (.long j2), (.int p3), (.int p4), (.int p5)] h0 (Q_law Z zc kd0 kd1 kd2 kd3 kd4 kd5 kd6 kd7 kd8 kd9 kd10 kd11 kd12 kd13 kd14 kd15 kd16 kd17 p0 p1 j2 p3 p4 p5 h0 n0) := by
  refine CW.of (L0 := #[.val (.int p0), .val (.int p1), .val (.long j2), .second, .val (.int p3), .val (.int p4), .val (.int p5), .unset, .unset, .unset, .unset, .unset, .unset, .unset, .unset, .unset, .unset, .unset, .unset, .unset]) (plainFor_of_name pn_1) (fun m => by first | (simp [entryFrame, mkF, argsToLocals, Value.category, maxLocals]; done) | rfl) ?_
  intro p e s m below meth c s₁ hx hby hml hret hlk hZ hown hnm X0 e0 hS0 hk0 CV0 hh0
  have hEL := hEL_ (a0 := a0) hw
  have hwS := hwS_ hw
  have N0 := Fr.nil n0
  have KP0 := Keep.refl h0 []
  have hSt_ := hSt
  obtain ⟨S_cs, n_cs, S_kd0, S_kd1, S_kd2, S_kd3, S_kd4, S_kd5, S_kd6, S_kd7, S_kd8, S_kd9, S_kd10, S_kd11, S_kd12, S_kd13, S_kd14, S_kd15, S_kd16, S_kd17⟩ := hSt_
  show Go p e below _ (s₁.setTop (mkF m 0 #[.val (.int p0), .val (.int p1), .val (.long j2), .second, .val (.int p3), .val (.int p4), .val (.int p5), .unset, .unset, .unset, .unset, .unset, .unset, .unset, .unset, .unset, .unset, .unset, .unset, .unset] []))
  refine Go.step (fun _ k => XS.iloadN X0.here hx rfl (hb hby at_0) rfl  k) ?_
  show Go p e below _ (s₁.setTop (mkF m 1 #[.val (.int p0), .val (.int p1), .val (.long j2), .second, .val (.int p3), .val (.int p4), .val (.int p5), .unset, .unset, .unset, .unset, .unset, .unset, .unset, .unset, .unset, .unset, .unset, .unset, .unset] [(.int p1)]))
  refine Go.step (fun _ k => XS.iconst X0.here hx rfl (hb hby at_1) k) ?_
  show Go p e below _ (s₁.setTop (mkF m 2 #[.val (.int p0), .val (.int p1), .val (.long j2), .second, .val (.int p3), .val (.int p4), .val (.int p5), .unset, .unset, .unset, .unset, .unset, .unset, .unset, .unset, .unset, .unset, .unset, .unset, .unset] [(.int (1 : Int32)), (.int p1)]))
  refine Go.step (fun _ k => XS.iand X0.here hx rfl (hb hby at_2) rfl k) ?_
  show Go p e below _ (s₁.setTop (mkF m 3 #[.val (.int p0), .val (.int p1), .val (.long j2), .second, .val (.int p3), .val (.int p4), .val (.int p5), .unset, .unset, .unset, .unset, .unset, .unset, .unset, .unset, .unset, .unset, .unset, .unset, .unset] [(.int (p1 &&& (1 : Int32)))]))
  by_cases hesc : (p1 &&& (1 : Int32)) = (0 : Int32)
  · skip
    refine Go.step (fun _ k => XS.ifYes X0.here hx rfl (pc0 := 3) (pc' := 10) rfl (hb hby at_3) rfl ((if0 _ _).trans (teq hesc).1) (by decide) (by decide) k) ?_
    show Go p e below _ (s₁.setTop (mkF m 10 #[.val (.int p0), .val (.int p1), .val (.long j2), .second, .val (.int p3), .val (.int p4), .val (.int p5), .unset, .unset, .unset, .unset, .unset, .unset, .unset, .unset, .unset, .unset, .unset, .unset, .unset] []))
    refine Go.step (fun _ k => XS.iconst X0.here hx rfl (hb hby at_10) k) ?_
    show Go p e below _ (s₁.setTop (mkF m 11 #[.val (.int p0), .val (.int p1), .val (.long j2), .second, .val (.int p3), .val (.int p4), .val (.int p5), .unset, .unset, .unset, .unset, .unset, .unset, .unset, .unset, .unset, .unset, .unset, .unset, .unset] [(.int (0 : Int32))]))
    refine Go.step (fun _ k => XS.istore X0.here hx rfl (hb hby at_11) rfl (l' := #[.val (.int p0), .val (.int p1), .val (.long j2), .second, .val (.int p3), .val (.int p4), .val (.int p5), .val (.int (0 : Int32)), .unset, .unset, .unset, .unset, .unset, .unset, .unset, .unset, .unset, .unset, .unset, .unset]) rfl k) ?_
    show Go p e below _ (s₁.setTop (mkF m 13 #[.val (.int p0), .val (.int p1), .val (.long j2), .second, .val (.int p3), .val (.int p4), .val (.int p5), .val (.int (0 : Int32)), .unset, .unset, .unset, .unset, .unset, .unset, .unset, .unset, .unset, .unset, .unset, .unset] []))
    refine Go.step (fun _ k => XS.iloadN X0.here hx rfl (hb hby at_13) rfl  k) ?_
    show Go p e below _ (s₁.setTop (mkF m 14 #[.val (.int p0), .val (.int p1), .val (.long j2), .second, .val (.int p3), .val (.int p4), .val (.int p5), .val (.int (0 : Int32)), .unset, .unset, .unset, .unset, .unset, .unset, .unset, .unset, .unset, .unset, .unset, .unset] [(.int p1)]))
    refine Go.step (fun _ k => XS.iconst X0.here hx rfl (hb hby at_14) k) ?_
    show Go p e below _ (s₁.setTop (mkF m 15 #[.val (.int p0), .val (.int p1), .val (.long j2), .second, .val (.int p3), .val (.int p4), .val (.int p5), .val (.int (0 : Int32)), .unset, .unset, .unset, .unset, .unset, .unset, .unset, .unset, .unset, .unset, .unset, .unset] [(.int (1 : Int32)), (.int p1)]))
    refine Go.step (fun _ k => XS.iushr X0.here hx rfl (hb hby at_15) rfl k) ?_
    show Go p e below _ (s₁.setTop (mkF m 16 #[.val (.int p0), .val (.int p1), .val (.long j2), .second, .val (.int p3), .val (.int p4), .val (.int p5), .val (.int (0 : Int32)), .unset, .unset, .unset, .unset, .unset, .unset, .unset, .unset, .unset, .unset, .unset, .unset] [(.int ((p1.toUInt32 >>> ((1 : Int32) &&& 31).toUInt32).toInt32))]))
    refine Go.step (fun _ k => XS.iconst X0.here hx rfl (hb hby at_16) k) ?_
    show Go p e below _ (s₁.setTop (mkF m 17 #[.val (.int p0), .val (.int p1), .val (.long j2), .second, .val (.int p3), .val (.int p4), .val (.int p5), .val (.int (0 : Int32)), .unset, .unset, .unset, .unset, .unset, .unset, .unset, .unset, .unset, .unset, .unset, .unset] [(.int (3 : Int32)), (.int ((p1.toUInt32 >>> ((1 : Int32) &&& 31).toUInt32).toInt32))]))
    refine Go.step (fun _ k => XS.iand X0.here hx rfl (hb hby at_17) rfl k) ?_
    show Go p e below _ (s₁.setTop (mkF m 18 #[.val (.int p0), .val (.int p1), .val (.long j2), .second, .val (.int p3), .val (.int p4), .val (.int p5), .val (.int (0 : Int32)), .unset, .unset, .unset, .unset, .unset, .unset, .unset, .unset, .unset, .unset, .unset, .unset] [(.int (((p1.toUInt32 >>> ((1 : Int32) &&& 31).toUInt32).toInt32) &&& (3 : Int32)))]))
    refine Go.step (fun _ k => XS.istore X0.here hx rfl (hb hby at_18) rfl (l' := #[.val (.int p0), .val (.int p1), .val (.long j2), .second, .val (.int p3), .val (.int p4), .val (.int p5), .val (.int (0 : Int32)), .val (.int (((p1.toUInt32 >>> ((1 : Int32) &&& 31).toUInt32).toInt32) &&& (3 : Int32))), .unset, .unset, .unset, .unset, .unset, .unset, .unset, .unset, .unset, .unset, .unset]) rfl k) ?_
    show Go p e below _ (s₁.setTop (mkF m 20 #[.val (.int p0), .val (.int p1), .val (.long j2), .second, .val (.int p3), .val (.int p4), .val (.int p5), .val (.int (0 : Int32)), .val (.int (((p1.toUInt32 >>> ((1 : Int32) &&& 31).toUInt32).toInt32) &&& (3 : Int32))), .unset, .unset, .unset, .unset, .unset, .unset, .unset, .unset, .unset, .unset, .unset] []))
    obtain ⟨nn, h_nn⟩ : ∃ z, z = (((p1.toUInt32 >>> ((1 : Int32) &&& 31).toUInt32).toInt32) &&& (3 : Int32)) := ⟨_, rfl⟩
    rw [← h_nn]
    show Go p e below _ (s₁.setTop (mkF m 20 #[.val (.int p0), .val (.int p1), .val (.long j2), .second, .val (.int p3), .val (.int p4), .val (.int p5), .val (.int (0 : Int32)), .val (.int nn), .unset, .unset, .unset, .unset, .unset, .unset, .unset, .unset, .unset, .unset, .unset] []))
    refine Go.step (fun _ k => XS.lloadN X0.here hx rfl (hb hby at_20) rfl  k) ?_
    show Go p e below _ (s₁.setTop (mkF m 21 #[.val (.int p0), .val (.int p1), .val (.long j2), .second, .val (.int p3), .val (.int p4), .val (.int p5), .val (.int (0 : Int32)), .val (.int nn), .unset, .unset, .unset, .unset, .unset, .unset, .unset, .unset, .unset, .unset, .unset] [(.long j2)]))
    refine Go.step (fun _ k => X0.ldc2Long hx hown (mvT hZ (wd_0 hw)) (g := (mkF m 21 #[.val (.int p0), .val (.int p1), .val (.long j2), .second, .val (.int p3), .val (.int p4), .val (.int p5), .val (.int (0 : Int32)), .val (.int nn), .unset, .unset, .unset, .unset, .unset, .unset, .unset, .unset, .unset, .unset, .unset] [(.long j2)])) rfl (hb hby at_21) _ k) ?_
    show Go p e below _ (s₁.setTop (mkF m 24 #[.val (.int p0), .val (.int p1), .val (.long j2), .second, .val (.int p3), .val (.int p4), .val (.int p5), .val (.int (0 : Int32)), .val (.int nn), .unset, .unset, .unset, .unset, .unset, .unset, .unset, .unset, .unset, .unset, .unset] [(.long (255 : Int64)), (.long j2)]))
    refine Go.step (fun _ k => XS.land X0.here hx rfl (hb hby at_24) rfl k) ?_
    show Go p e below _ (s₁.setTop (mkF m 25 #[.val (.int p0), .val (.int p1), .val (.long j2), .second, .val (.int p3), .val (.int p4), .val (.int p5), .val (.int (0 : Int32)), .val (.int nn), .unset, .unset, .unset, .unset, .unset, .unset, .unset, .unset, .unset, .unset, .unset] [(.long (j2 &&& (255 : Int64)))]))
    refine Go.step (fun _ k => XS.l2i X0.here hx rfl (hb hby at_25) rfl k) ?_
    show Go p e below _ (s₁.setTop (mkF m 26 #[.val (.int p0), .val (.int p1), .val (.long j2), .second, .val (.int p3), .val (.int p4), .val (.int p5), .val (.int (0 : Int32)), .val (.int nn), .unset, .unset, .unset, .unset, .unset, .unset, .unset, .unset, .unset, .unset, .unset] [(.int (j2 &&& (255 : Int64)).toInt32)]))
    refine Go.step (fun _ k => XS.i2c X0.here hx rfl (hb hby at_26) rfl k) ?_
    show Go p e below _ (s₁.setTop (mkF m 27 #[.val (.int p0), .val (.int p1), .val (.long j2), .second, .val (.int p3), .val (.int p4), .val (.int p5), .val (.int (0 : Int32)), .val (.int nn), .unset, .unset, .unset, .unset, .unset, .unset, .unset, .unset, .unset, .unset, .unset] [(.int (nar .char (j2 &&& (255 : Int64)).toInt32))]))
    refine own_top (congrArg Value.int (show (nar .char (j2 &&& (255 : Int64)).toInt32) = (j2 &&& (255 : Int64)).toInt32 from narL _)) ?_
    show Go p e below _ (s₁.setTop (mkF m 27 #[.val (.int p0), .val (.int p1), .val (.long j2), .second, .val (.int p3), .val (.int p4), .val (.int p5), .val (.int (0 : Int32)), .val (.int nn), .unset, .unset, .unset, .unset, .unset, .unset, .unset, .unset, .unset, .unset, .unset] [(.int (j2 &&& (255 : Int64)).toInt32)]))
    refine Go.step (fun _ k => XS.istore X0.here hx rfl (hb hby at_27) rfl (l' := #[.val (.int p0), .val (.int p1), .val (.long j2), .second, .val (.int p3), .val (.int p4), .val (.int p5), .val (.int (0 : Int32)), .val (.int nn), .val (.int (j2 &&& (255 : Int64)).toInt32), .unset, .unset, .unset, .unset, .unset, .unset, .unset, .unset, .unset, .unset]) rfl k) ?_
    show Go p e below _ (s₁.setTop (mkF m 29 #[.val (.int p0), .val (.int p1), .val (.long j2), .second, .val (.int p3), .val (.int p4), .val (.int p5), .val (.int (0 : Int32)), .val (.int nn), .val (.int (j2 &&& (255 : Int64)).toInt32), .unset, .unset, .unset, .unset, .unset, .unset, .unset, .unset, .unset, .unset] []))
    obtain ⟨c0, h_c0⟩ : ∃ z, z = (j2 &&& (255 : Int64)).toInt32 := ⟨_, rfl⟩
    rw [← h_c0]
    show Go p e below _ (s₁.setTop (mkF m 29 #[.val (.int p0), .val (.int p1), .val (.long j2), .second, .val (.int p3), .val (.int p4), .val (.int p5), .val (.int (0 : Int32)), .val (.int nn), .val (.int c0), .unset, .unset, .unset, .unset, .unset, .unset, .unset, .unset, .unset, .unset] []))
    have l_c0 : ¬ c0 < 0 ∧ ¬ (255 : Int32) < c0 := by rw [h_c0]; exact latL _
    show Go p e below _ (s₁.setTop (mkF m 29 #[.val (.int p0), .val (.int p1), .val (.long j2), .second, .val (.int p3), .val (.int p4), .val (.int p5), .val (.int (0 : Int32)), .val (.int nn), .val (.int c0), .unset, .unset, .unset, .unset, .unset, .unset, .unset, .unset, .unset, .unset] []))
    refine Go.step (fun _ k => XS.lloadN X0.here hx rfl (hb hby at_29) rfl  k) ?_
    show Go p e below _ (s₁.setTop (mkF m 30 #[.val (.int p0), .val (.int p1), .val (.long j2), .second, .val (.int p3), .val (.int p4), .val (.int p5), .val (.int (0 : Int32)), .val (.int nn), .val (.int c0), .unset, .unset, .unset, .unset, .unset, .unset, .unset, .unset, .unset, .unset] [(.long j2)]))
    refine Go.step (fun _ k => XS.bipush X0.here hx rfl (hb hby at_30) k) ?_
    show Go p e below _ (s₁.setTop (mkF m 32 #[.val (.int p0), .val (.int p1), .val (.long j2), .second, .val (.int p3), .val (.int p4), .val (.int p5), .val (.int (0 : Int32)), .val (.int nn), .val (.int c0), .unset, .unset, .unset, .unset, .unset, .unset, .unset, .unset, .unset, .unset] [(.int (8 : Int32)), (.long j2)]))
    refine Go.step (fun _ k => XS.lushr X0.here hx rfl (hb hby at_32) rfl k) ?_
    show Go p e below _ (s₁.setTop (mkF m 33 #[.val (.int p0), .val (.int p1), .val (.long j2), .second, .val (.int p3), .val (.int p4), .val (.int p5), .val (.int (0 : Int32)), .val (.int nn), .val (.int c0), .unset, .unset, .unset, .unset, .unset, .unset, .unset, .unset, .unset, .unset] [(.long ((j2.toUInt64 >>> ((8 : Int32) &&& 0x3f).toInt64.toUInt64).toInt64))]))
    refine Go.step (fun _ k => X0.ldc2Long hx hown (mvT hZ (wd_0 hw)) (g := (mkF m 33 #[.val (.int p0), .val (.int p1), .val (.long j2), .second, .val (.int p3), .val (.int p4), .val (.int p5), .val (.int (0 : Int32)), .val (.int nn), .val (.int c0), .unset, .unset, .unset, .unset, .unset, .unset, .unset, .unset, .unset, .unset] [(.long ((j2.toUInt64 >>> ((8 : Int32) &&& 0x3f).toInt64.toUInt64).toInt64))])) rfl (hb hby at_33) _ k) ?_
    show Go p e below _ (s₁.setTop (mkF m 36 #[.val (.int p0), .val (.int p1), .val (.long j2), .second, .val (.int p3), .val (.int p4), .val (.int p5), .val (.int (0 : Int32)), .val (.int nn), .val (.int c0), .unset, .unset, .unset, .unset, .unset, .unset, .unset, .unset, .unset, .unset] [(.long (255 : Int64)), (.long ((j2.toUInt64 >>> ((8 : Int32) &&& 0x3f).toInt64.toUInt64).toInt64))]))
    refine Go.step (fun _ k => XS.land X0.here hx rfl (hb hby at_36) rfl k) ?_
    show Go p e below _ (s₁.setTop (mkF m 37 #[.val (.int p0), .val (.int p1), .val (.long j2), .second, .val (.int p3), .val (.int p4), .val (.int p5), .val (.int (0 : Int32)), .val (.int nn), .val (.int c0), .unset, .unset, .unset, .unset, .unset, .unset, .unset, .unset, .unset, .unset] [(.long (((j2.toUInt64 >>> ((8 : Int32) &&& 0x3f).toInt64.toUInt64).toInt64) &&& (255 : Int64)))]))
    refine Go.step (fun _ k => XS.l2i X0.here hx rfl (hb hby at_37) rfl k) ?_
    show Go p e below _ (s₁.setTop (mkF m 38 #[.val (.int p0), .val (.int p1), .val (.long j2), .second, .val (.int p3), .val (.int p4), .val (.int p5), .val (.int (0 : Int32)), .val (.int nn), .val (.int c0), .unset, .unset, .unset, .unset, .unset, .unset, .unset, .unset, .unset, .unset] [(.int (((j2.toUInt64 >>> ((8 : Int32) &&& 0x3f).toInt64.toUInt64).toInt64) &&& (255 : Int64)).toInt32)]))
    refine Go.step (fun _ k => XS.i2c X0.here hx rfl (hb hby at_38) rfl k) ?_
    show Go p e below _ (s₁.setTop (mkF m 39 #[.val (.int p0), .val (.int p1), .val (.long j2), .second, .val (.int p3), .val (.int p4), .val (.int p5), .val (.int (0 : Int32)), .val (.int nn), .val (.int c0), .unset, .unset, .unset, .unset, .unset, .unset, .unset, .unset, .unset, .unset] [(.int (nar .char (((j2.toUInt64 >>> ((8 : Int32) &&& 0x3f).toInt64.toUInt64).toInt64) &&& (255 : Int64)).toInt32))]))
    refine own_top (congrArg Value.int (show (nar .char (((j2.toUInt64 >>> ((8 : Int32) &&& 0x3f).toInt64.toUInt64).toInt64) &&& (255 : Int64)).toInt32) = (((j2.toUInt64 >>> ((8 : Int32) &&& 0x3f).toInt64.toUInt64).toInt64) &&& (255 : Int64)).toInt32 from narL _)) ?_
    show Go p e below _ (s₁.setTop (mkF m 39 #[.val (.int p0), .val (.int p1), .val (.long j2), .second, .val (.int p3), .val (.int p4), .val (.int p5), .val (.int (0 : Int32)), .val (.int nn), .val (.int c0), .unset, .unset, .unset, .unset, .unset, .unset, .unset, .unset, .unset, .unset] [(.int (((j2.toUInt64 >>> ((8 : Int32) &&& 0x3f).toInt64.toUInt64).toInt64) &&& (255 : Int64)).toInt32)]))
    refine Go.step (fun _ k => XS.istore X0.here hx rfl (hb hby at_39) rfl (l' := #[.val (.int p0), .val (.int p1), .val (.long j2), .second, .val (.int p3), .val (.int p4), .val (.int p5), .val (.int (0 : Int32)), .val (.int nn), .val (.int c0), .val (.int (((j2.toUInt64 >>> ((8 : Int32) &&& 0x3f).toInt64.toUInt64).toInt64) &&& (255 : Int64)).toInt32), .unset, .unset, .unset, .unset, .unset, .unset, .unset, .unset, .unset]) rfl k) ?_
    show Go p e below _ (s₁.setTop (mkF m 41 #[.val (.int p0), .val (.int p1), .val (.long j2), .second, .val (.int p3), .val (.int p4), .val (.int p5), .val (.int (0 : Int32)), .val (.int nn), .val (.int c0), .val (.int (((j2.toUInt64 >>> ((8 : Int32) &&& 0x3f).toInt64.toUInt64).toInt64) &&& (255 : Int64)).toInt32), .unset, .unset, .unset, .unset, .unset, .unset, .unset, .unset, .unset] []))
    obtain ⟨c1, h_c1⟩ : ∃ z, z = (((j2.toUInt64 >>> ((8 : Int32) &&& 0x3f).toInt64.toUInt64).toInt64) &&& (255 : Int64)).toInt32 := ⟨_, rfl⟩
    rw [← h_c1]
    show Go p e below _ (s₁.setTop (mkF m 41 #[.val (.int p0), .val (.int p1), .val (.long j2), .second, .val (.int p3), .val (.int p4), .val (.int p5), .val (.int (0 : Int32)), .val (.int nn), .val (.int c0), .val (.int c1), .unset, .unset, .unset, .unset, .unset, .unset, .unset, .unset, .unset] []))
    have l_c1 : ¬ c1 < 0 ∧ ¬ (255 : Int32) < c1 := by rw [h_c1]; exact latL _
    show Go p e below _ (s₁.setTop (mkF m 41 #[.val (.int p0), .val (.int p1), .val (.long j2), .second, .val (.int p3), .val (.int p4), .val (.int p5), .val (.int (0 : Int32)), .val (.int nn), .val (.int c0), .val (.int c1), .unset, .unset, .unset, .unset, .unset, .unset, .unset, .unset, .unset] []))
    refine Go.step (fun _ k => XS.lloadN X0.here hx rfl (hb hby at_41) rfl  k) ?_
    show Go p e below _ (s₁.setTop (mkF m 42 #[.val (.int p0), .val (.int p1), .val (.long j2), .second, .val (.int p3), .val (.int p4), .val (.int p5), .val (.int (0 : Int32)), .val (.int nn), .val (.int c0), .val (.int c1), .unset, .unset, .unset, .unset, .unset, .unset, .unset, .unset, .unset] [(.long j2)]))
    refine Go.step (fun _ k => XS.bipush X0.here hx rfl (hb hby at_42) k) ?_
    show Go p e below _ (s₁.setTop (mkF m 44 #[.val (.int p0), .val (.int p1), .val (.long j2), .second, .val (.int p3), .val (.int p4), .val (.int p5), .val (.int (0 : Int32)), .val (.int nn), .val (.int c0), .val (.int c1), .unset, .unset, .unset, .unset, .unset, .unset, .unset, .unset, .unset] [(.int (16 : Int32)), (.long j2)]))
    refine Go.step (fun _ k => XS.lushr X0.here hx rfl (hb hby at_44) rfl k) ?_
    show Go p e below _ (s₁.setTop (mkF m 45 #[.val (.int p0), .val (.int p1), .val (.long j2), .second, .val (.int p3), .val (.int p4), .val (.int p5), .val (.int (0 : Int32)), .val (.int nn), .val (.int c0), .val (.int c1), .unset, .unset, .unset, .unset, .unset, .unset, .unset, .unset, .unset] [(.long ((j2.toUInt64 >>> ((16 : Int32) &&& 0x3f).toInt64.toUInt64).toInt64))]))
    refine Go.step (fun _ k => X0.ldc2Long hx hown (mvT hZ (wd_0 hw)) (g := (mkF m 45 #[.val (.int p0), .val (.int p1), .val (.long j2), .second, .val (.int p3), .val (.int p4), .val (.int p5), .val (.int (0 : Int32)), .val (.int nn), .val (.int c0), .val (.int c1), .unset, .unset, .unset, .unset, .unset, .unset, .unset, .unset, .unset] [(.long ((j2.toUInt64 >>> ((16 : Int32) &&& 0x3f).toInt64.toUInt64).toInt64))])) rfl (hb hby at_45) _ k) ?_
    show Go p e below _ (s₁.setTop (mkF m 48 #[.val (.int p0), .val (.int p1), .val (.long j2), .second, .val (.int p3), .val (.int p4), .val (.int p5), .val (.int (0 : Int32)), .val (.int nn), .val (.int c0), .val (.int c1), .unset, .unset, .unset, .unset, .unset, .unset, .unset, .unset, .unset] [(.long (255 : Int64)), (.long ((j2.toUInt64 >>> ((16 : Int32) &&& 0x3f).toInt64.toUInt64).toInt64))]))
    refine Go.step (fun _ k => XS.land X0.here hx rfl (hb hby at_48) rfl k) ?_
    show Go p e below _ (s₁.setTop (mkF m 49 #[.val (.int p0), .val (.int p1), .val (.long j2), .second, .val (.int p3), .val (.int p4), .val (.int p5), .val (.int (0 : Int32)), .val (.int nn), .val (.int c0), .val (.int c1), .unset, .unset, .unset, .unset, .unset, .unset, .unset, .unset, .unset] [(.long (((j2.toUInt64 >>> ((16 : Int32) &&& 0x3f).toInt64.toUInt64).toInt64) &&& (255 : Int64)))]))
    refine Go.step (fun _ k => XS.l2i X0.here hx rfl (hb hby at_49) rfl k) ?_
    show Go p e below _ (s₁.setTop (mkF m 50 #[.val (.int p0), .val (.int p1), .val (.long j2), .second, .val (.int p3), .val (.int p4), .val (.int p5), .val (.int (0 : Int32)), .val (.int nn), .val (.int c0), .val (.int c1), .unset, .unset, .unset, .unset, .unset, .unset, .unset, .unset, .unset] [(.int (((j2.toUInt64 >>> ((16 : Int32) &&& 0x3f).toInt64.toUInt64).toInt64) &&& (255 : Int64)).toInt32)]))
    refine Go.step (fun _ k => XS.i2c X0.here hx rfl (hb hby at_50) rfl k) ?_
    show Go p e below _ (s₁.setTop (mkF m 51 #[.val (.int p0), .val (.int p1), .val (.long j2), .second, .val (.int p3), .val (.int p4), .val (.int p5), .val (.int (0 : Int32)), .val (.int nn), .val (.int c0), .val (.int c1), .unset, .unset, .unset, .unset, .unset, .unset, .unset, .unset, .unset] [(.int (nar .char (((j2.toUInt64 >>> ((16 : Int32) &&& 0x3f).toInt64.toUInt64).toInt64) &&& (255 : Int64)).toInt32))]))
    refine own_top (congrArg Value.int (show (nar .char (((j2.toUInt64 >>> ((16 : Int32) &&& 0x3f).toInt64.toUInt64).toInt64) &&& (255 : Int64)).toInt32) = (((j2.toUInt64 >>> ((16 : Int32) &&& 0x3f).toInt64.toUInt64).toInt64) &&& (255 : Int64)).toInt32 from narL _)) ?_
    show Go p e below _ (s₁.setTop (mkF m 51 #[.val (.int p0), .val (.int p1), .val (.long j2), .second, .val (.int p3), .val (.int p4), .val (.int p5), .val (.int (0 : Int32)), .val (.int nn), .val (.int c0), .val (.int c1), .unset, .unset, .unset, .unset, .unset, .unset, .unset, .unset, .unset] [(.int (((j2.toUInt64 >>> ((16 : Int32) &&& 0x3f).toInt64.toUInt64).toInt64) &&& (255 : Int64)).toInt32)]))
    refine Go.step (fun _ k => XS.istore X0.here hx rfl (hb hby at_51) rfl (l' := #[.val (.int p0), .val (.int p1), .val (.long j2), .second, .val (.int p3), .val (.int p4), .val (.int p5), .val (.int (0 : Int32)), .val (.int nn), .val (.int c0), .val (.int c1), .val (.int (((j2.toUInt64 >>> ((16 : Int32) &&& 0x3f).toInt64.toUInt64).toInt64) &&& (255 : Int64)).toInt32), .unset, .unset, .unset, .unset, .unset, .unset, .unset, .unset]) rfl k) ?_
    show Go p e below _ (s₁.setTop (mkF m 53 #[.val (.int p0), .val (.int p1), .val (.long j2), .second, .val (.int p3), .val (.int p4), .val (.int p5), .val (.int (0 : Int32)), .val (.int nn), .val (.int c0), .val (.int c1), .val (.int (((j2.toUInt64 >>> ((16 : Int32) &&& 0x3f).toInt64.toUInt64).toInt64) &&& (255 : Int64)).toInt32), .unset, .unset, .unset, .unset, .unset, .unset, .unset, .unset] []))
    obtain ⟨c2, h_c2⟩ : ∃ z, z = (((j2.toUInt64 >>> ((16 : Int32) &&& 0x3f).toInt64.toUInt64).toInt64) &&& (255 : Int64)).toInt32 := ⟨_, rfl⟩
    rw [← h_c2]
    show Go p e below _ (s₁.setTop (mkF m 53 #[.val (.int p0), .val (.int p1), .val (.long j2), .second, .val (.int p3), .val (.int p4), .val (.int p5), .val (.int (0 : Int32)), .val (.int nn), .val (.int c0), .val (.int c1), .val (.int c2), .unset, .unset, .unset, .unset, .unset, .unset, .unset, .unset] []))
    have l_c2 : ¬ c2 < 0 ∧ ¬ (255 : Int32) < c2 := by rw [h_c2]; exact latL _
    show Go p e below _ (s₁.setTop (mkF m 53 #[.val (.int p0), .val (.int p1), .val (.long j2), .second, .val (.int p3), .val (.int p4), .val (.int p5), .val (.int (0 : Int32)), .val (.int nn), .val (.int c0), .val (.int c1), .val (.int c2), .unset, .unset, .unset, .unset, .unset, .unset, .unset, .unset] []))
    refine Go.step (fun _ k => XS.iload X0.here hx rfl (hb hby at_53) rfl  k) ?_
    show Go p e below _ (s₁.setTop (mkF m 55 #[.val (.int p0), .val (.int p1), .val (.long j2), .second, .val (.int p3), .val (.int p4), .val (.int p5), .val (.int (0 : Int32)), .val (.int nn), .val (.int c0), .val (.int c1), .val (.int c2), .unset, .unset, .unset, .unset, .unset, .unset, .unset, .unset] [(.int nn)]))
    refine Go.step (fun _ k => XS.iload X0.here hx rfl (hb hby at_55) rfl  k) ?_
    show Go p e below _ (s₁.setTop (mkF m 57 #[.val (.int p0), .val (.int p1), .val (.long j2), .second, .val (.int p3), .val (.int p4), .val (.int p5), .val (.int (0 : Int32)), .val (.int nn), .val (.int c0), .val (.int c1), .val (.int c2), .unset, .unset, .unset, .unset, .unset, .unset, .unset, .unset] [(.int c0), (.int nn)]))
    refine Go.step (fun _ k => XS.iload X0.here hx rfl (hb hby at_57) rfl  k) ?_
    show Go p e below _ (s₁.setTop (mkF m 59 #[.val (.int p0), .val (.int p1), .val (.long j2), .second, .val (.int p3), .val (.int p4), .val (.int p5), .val (.int (0 : Int32)), .val (.int nn), .val (.int c0), .val (.int c1), .val (.int c2), .unset, .unset, .unset, .unset, .unset, .unset, .unset, .unset] [(.int c1), (.int c0), (.int nn)]))
    refine Go.step (fun _ k => XS.iload X0.here hx rfl (hb hby at_59) rfl  k) ?_
    show Go p e below _ (s₁.setTop (mkF m 61 #[.val (.int p0), .val (.int p1), .val (.long j2), .second, .val (.int p3), .val (.int p4), .val (.int p5), .val (.int (0 : Int32)), .val (.int nn), .val (.int c0), .val (.int c1), .val (.int c2), .unset, .unset, .unset, .unset, .unset, .unset, .unset, .unset] [(.int c2), (.int c1), (.int c0), (.int nn)]))
    obtain ⟨v_146, T_146, L_146, X_146, hQ_146, hS_146, hZ_146, hown_146, C_146, st_146⟩ := goSW X0 hx hZ (y := ({ cls := "com/example/stubwright/stubwright/idl/TokenMovedToPinLaw", name := "textOf", desc := "(ICCC)Ljava/lang/String;" } : Jvm.MethodName)) hown hS0 hk0 (wd_1 hw) (wd_2 hw) (wd_3 hw) (wd_4 hw) (by decide) (backOfSH (W := 0) (rm_textOf l Z a0 hw zc kd0 kd1 kd2 kd3 kd4 kd5 kd6 kd7 kd8 kd9 kd10 kd11 kd12 kd13 kd14 kd15 kd16 kd17 (nn) (c0) (c1) (c2) h0 n0 (Nat.le_trans Z0 KP0.1) (by assumption) (by assumption) (by assumption) hSt hO) hZ (wd_4 hw) (wd_3 hw) (by decide) (by decide) hEL CV0) e0 (g := (mkF m 61 #[.val (.int p0), .val (.int p1), .val (.long j2), .second, .val (.int p3), .val (.int p4), .val (.int p5), .val (.int (0 : Int32)), .val (.int nn), .val (.int c0), .val (.int c1), .val (.int c2), .unset, .unset, .unset, .unset, .unset, .unset, .unset, .unset] [(.int c2), (.int c1), (.int c0), (.int nn)])) rfl (by rw [hml]; rfl) (argsL := [(.int nn), (.int c0), (.int c1), (.int c2)]) (rest := []) rfl (lenOf pd_7 rfl) rfl (by show 2 * 0 + _ ≤ _; exact Nat.le_of_eq rfl) (hb hby at_61) (by decide) (by decide)
    obtain ⟨r_146, rfl, Nq_146, K_146, u0_146, u1_146⟩ := hQ_146
    have N_146 := Fr.app N0 Nq_146
    have CR_146 := CHr.trans (CHr.refl CV0) C_146
    have le_146 : h0.size ≤ T_146.heap.size := K_146.1
    have KP_146 := KP0.trans K_146 all0
    have O_146 := hO.keep K_146 all0
    have sz_r_146 : h0.size ≤ r_146 := Nat.le_trans (Nat.le_refl _) u0_146
    have g_r_146 : n0 ≤ r_146 := Nat.le_trans Z0 sz_r_146
    refine Go.step st_146 ?_
    show Go p e below _ (T_146.setTop (mkF m 64 #[.val (.int p0), .val (.int p1), .val (.long j2), .second, .val (.int p3), .val (.int p4), .val (.int p5), .val (.int (0 : Int32)), .val (.int nn), .val (.int c0), .val (.int c1), .val (.int c2), .unset, .unset, .unset, .unset, .unset, .unset, .unset, .unset] [(.ref r_146)]))
    refine Go.step (fun _ k => XS.astore X_146.here hx rfl (hb hby at_64) rfl rfl (l' := #[.val (.int p0), .val (.int p1), .val (.long j2), .second, .val (.int p3), .val (.int p4), .val (.int p5), .val (.int (0 : Int32)), .val (.int nn), .val (.int c0), .val (.int c1), .val (.int c2), .val (.ref r_146), .unset, .unset, .unset, .unset, .unset, .unset, .unset]) rfl k) ?_
    show Go p e below _ (T_146.setTop (mkF m 66 #[.val (.int p0), .val (.int p1), .val (.long j2), .second, .val (.int p3), .val (.int p4), .val (.int p5), .val (.int (0 : Int32)), .val (.int nn), .val (.int c0), .val (.int c1), .val (.int c2), .val (.ref r_146), .unset, .unset, .unset, .unset, .unset, .unset, .unset] []))
    refine Go.step (fun _ k => XS.lloadN X_146.here hx rfl (hb hby at_66) rfl  k) ?_
    show Go p e below _ (T_146.setTop (mkF m 67 #[.val (.int p0), .val (.int p1), .val (.long j2), .second, .val (.int p3), .val (.int p4), .val (.int p5), .val (.int (0 : Int32)), .val (.int nn), .val (.int c0), .val (.int c1), .val (.int c2), .val (.ref r_146), .unset, .unset, .unset, .unset, .unset, .unset, .unset] [(.long j2)]))
    refine Go.step (fun _ k => XS.bipush X_146.here hx rfl (hb hby at_67) k) ?_
    show Go p e below _ (T_146.setTop (mkF m 69 #[.val (.int p0), .val (.int p1), .val (.long j2), .second, .val (.int p3), .val (.int p4), .val (.int p5), .val (.int (0 : Int32)), .val (.int nn), .val (.int c0), .val (.int c1), .val (.int c2), .val (.ref r_146), .unset, .unset, .unset, .unset, .unset, .unset, .unset] [(.int (24 : Int32)), (.long j2)]))
    refine Go.step (fun _ k => XS.lushr X_146.here hx rfl (hb hby at_69) rfl k) ?_
    show Go p e below _ (T_146.setTop (mkF m 70 #[.val (.int p0), .val (.int p1), .val (.long j2), .second, .val (.int p3), .val (.int p4), .val (.int p5), .val (.int (0 : Int32)), .val (.int nn), .val (.int c0), .val (.int c1), .val (.int c2), .val (.ref r_146), .unset, .unset, .unset, .unset, .unset, .unset, .unset] [(.long ((j2.toUInt64 >>> ((24 : Int32) &&& 0x3f).toInt64.toUInt64).toInt64))]))
    refine Go.step (fun _ k => X_146.ldc2Long hx hown_146 (mvT hZ_146 (wd_0 hw)) (g := (mkF m 70 #[.val (.int p0), .val (.int p1), .val (.long j2), .second, .val (.int p3), .val (.int p4), .val (.int p5), .val (.int (0 : Int32)), .val (.int nn), .val (.int c0), .val (.int c1), .val (.int c2), .val (.ref r_146), .unset, .unset, .unset, .unset, .unset, .unset, .unset] [(.long ((j2.toUInt64 >>> ((24 : Int32) &&& 0x3f).toInt64.toUInt64).toInt64))])) rfl (hb hby at_70) _ k) ?_
    show Go p e below _ (T_146.setTop (mkF m 73 #[.val (.int p0), .val (.int p1), .val (.long j2), .second, .val (.int p3), .val (.int p4), .val (.int p5), .val (.int (0 : Int32)), .val (.int nn), .val (.int c0), .val (.int c1), .val (.int c2), .val (.ref r_146), .unset, .unset, .unset, .unset, .unset, .unset, .unset] [(.long (255 : Int64)), (.long ((j2.toUInt64 >>> ((24 : Int32) &&& 0x3f).toInt64.toUInt64).toInt64))]))
    refine Go.step (fun _ k => XS.land X_146.here hx rfl (hb hby at_73) rfl k) ?_
    show Go p e below _ (T_146.setTop (mkF m 74 #[.val (.int p0), .val (.int p1), .val (.long j2), .second, .val (.int p3), .val (.int p4), .val (.int p5), .val (.int (0 : Int32)), .val (.int nn), .val (.int c0), .val (.int c1), .val (.int c2), .val (.ref r_146), .unset, .unset, .unset, .unset, .unset, .unset, .unset] [(.long (((j2.toUInt64 >>> ((24 : Int32) &&& 0x3f).toInt64.toUInt64).toInt64) &&& (255 : Int64)))]))
    refine Go.step (fun _ k => XS.l2i X_146.here hx rfl (hb hby at_74) rfl k) ?_
    show Go p e below _ (T_146.setTop (mkF m 75 #[.val (.int p0), .val (.int p1), .val (.long j2), .second, .val (.int p3), .val (.int p4), .val (.int p5), .val (.int (0 : Int32)), .val (.int nn), .val (.int c0), .val (.int c1), .val (.int c2), .val (.ref r_146), .unset, .unset, .unset, .unset, .unset, .unset, .unset] [(.int (((j2.toUInt64 >>> ((24 : Int32) &&& 0x3f).toInt64.toUInt64).toInt64) &&& (255 : Int64)).toInt32)]))
    refine Go.step (fun _ k => XS.i2c X_146.here hx rfl (hb hby at_75) rfl k) ?_
    show Go p e below _ (T_146.setTop (mkF m 76 #[.val (.int p0), .val (.int p1), .val (.long j2), .second, .val (.int p3), .val (.int p4), .val (.int p5), .val (.int (0 : Int32)), .val (.int nn), .val (.int c0), .val (.int c1), .val (.int c2), .val (.ref r_146), .unset, .unset, .unset, .unset, .unset, .unset, .unset] [(.int (nar .char (((j2.toUInt64 >>> ((24 : Int32) &&& 0x3f).toInt64.toUInt64).toInt64) &&& (255 : Int64)).toInt32))]))
    refine own_top (congrArg Value.int (show (nar .char (((j2.toUInt64 >>> ((24 : Int32) &&& 0x3f).toInt64.toUInt64).toInt64) &&& (255 : Int64)).toInt32) = (((j2.toUInt64 >>> ((24 : Int32) &&& 0x3f).toInt64.toUInt64).toInt64) &&& (255 : Int64)).toInt32 from narL _)) ?_
    show Go p e below _ (T_146.setTop (mkF m 76 #[.val (.int p0), .val (.int p1), .val (.long j2), .second, .val (.int p3), .val (.int p4), .val (.int p5), .val (.int (0 : Int32)), .val (.int nn), .val (.int c0), .val (.int c1), .val (.int c2), .val (.ref r_146), .unset, .unset, .unset, .unset, .unset, .unset, .unset] [(.int (((j2.toUInt64 >>> ((24 : Int32) &&& 0x3f).toInt64.toUInt64).toInt64) &&& (255 : Int64)).toInt32)]))
    obtain ⟨v_147, T_147, L_147, X_147, hQ_147, st_147⟩ := goS X_146 hx hZ_146 (y := ({ cls := "java/lang/String", name := "valueOf", desc := "(C)Ljava/lang/String;" } : Jvm.MethodName)) hown_146 (wd_35 hw) (wd_36 hw) (wd_7 hw) (wd_37 hw) (by decide) (backOf (W := 0) (rm_valueOf l Z a0 hw zc kd0 kd1 kd2 kd3 kd4 kd5 kd6 kd7 kd8 kd9 kd10 kd11 kd12 kd13 kd14 kd15 kd16 kd17 ((((j2.toUInt64 >>> ((24 : Int32) &&& 0x3f).toInt64.toUInt64).toInt64) &&& (255 : Int64)).toInt32) T_146.heap n0 (Nat.le_trans Z0 KP_146.1) (latL _) hSt O_146) hZ_146 (wd_37 hw) (wd_7 hw) (by decide) (by decide)) rfl (g := (mkF m 76 #[.val (.int p0), .val (.int p1), .val (.long j2), .second, .val (.int p3), .val (.int p4), .val (.int p5), .val (.int (0 : Int32)), .val (.int nn), .val (.int c0), .val (.int c1), .val (.int c2), .val (.ref r_146), .unset, .unset, .unset, .unset, .unset, .unset, .unset] [(.int (((j2.toUInt64 >>> ((24 : Int32) &&& 0x3f).toInt64.toUInt64).toInt64) &&& (255 : Int64)).toInt32)])) rfl (by rw [hml]; rfl) (argsL := [(.int (((j2.toUInt64 >>> ((24 : Int32) &&& 0x3f).toInt64.toUInt64).toInt64) &&& (255 : Int64)).toInt32)]) (rest := []) rfl (lenOf pd_8 rfl) rfl (by show 2 * 0 + _ ≤ _; exact Nat.le_of_eq rfl) (hb hby at_76) (by decide) (by decide)
    obtain ⟨r_147, rfl, Nq_147, K_147, u0_147, u1_147⟩ := hQ_147
    have N_147 := Fr.app N_146 Nq_147
    have C_147 := CHr.keep K_147 sf0 C_146.1
    have CR_147 := CHr.trans CR_146 C_147
    have le_147 : T_146.heap.size ≤ T_147.heap.size := K_147.1
    have KP_147 := KP_146.trans K_147 all0
    have O_147 := O_146.keep K_147 all0
    have sz_r_147 : h0.size ≤ r_147 := Nat.le_trans le_146 u0_147
    have g_r_147 : n0 ≤ r_147 := Nat.le_trans Z0 sz_r_147
    refine Go.step st_147 ?_
    show Go p e below _ (T_147.setTop (mkF m 79 #[.val (.int p0), .val (.int p1), .val (.long j2), .second, .val (.int p3), .val (.int p4), .val (.int p5), .val (.int (0 : Int32)), .val (.int nn), .val (.int c0), .val (.int c1), .val (.int c2), .val (.ref r_146), .unset, .unset, .unset, .unset, .unset, .unset, .unset] [(.ref r_147)]))
    refine Go.step (fun _ k => XS.astore X_147.here hx rfl (hb hby at_79) rfl rfl (l' := #[.val (.int p0), .val (.int p1), .val (.long j2), .second, .val (.int p3), .val (.int p4), .val (.int p5), .val (.int (0 : Int32)), .val (.int nn), .val (.int c0), .val (.int c1), .val (.int c2), .val (.ref r_146), .val (.ref r_147), .unset, .unset, .unset, .unset, .unset, .unset]) rfl k) ?_
    show Go p e below _ (T_147.setTop (mkF m 81 #[.val (.int p0), .val (.int p1), .val (.long j2), .second, .val (.int p3), .val (.int p4), .val (.int p5), .val (.int (0 : Int32)), .val (.int nn), .val (.int c0), .val (.int c1), .val (.int c2), .val (.ref r_146), .val (.ref r_147), .unset, .unset, .unset, .unset, .unset, .unset] []))
    refine Go.step (fun _ k => XS.lloadN X_147.here hx rfl (hb hby at_81) rfl  k) ?_
    show Go p e below _ (T_147.setTop (mkF m 82 #[.val (.int p0), .val (.int p1), .val (.long j2), .second, .val (.int p3), .val (.int p4), .val (.int p5), .val (.int (0 : Int32)), .val (.int nn), .val (.int c0), .val (.int c1), .val (.int c2), .val (.ref r_146), .val (.ref r_147), .unset, .unset, .unset, .unset, .unset, .unset] [(.long j2)]))
    refine Go.step (fun _ k => XS.bipush X_147.here hx rfl (hb hby at_82) k) ?_
    show Go p e below _ (T_147.setTop (mkF m 84 #[.val (.int p0), .val (.int p1), .val (.long j2), .second, .val (.int p3), .val (.int p4), .val (.int p5), .val (.int (0 : Int32)), .val (.int nn), .val (.int c0), .val (.int c1), .val (.int c2), .val (.ref r_146), .val (.ref r_147), .unset, .unset, .unset, .unset, .unset, .unset] [(.int (32 : Int32)), (.long j2)]))
    refine Go.step (fun _ k => XS.lushr X_147.here hx rfl (hb hby at_84) rfl k) ?_
    show Go p e below _ (T_147.setTop (mkF m 85 #[.val (.int p0), .val (.int p1), .val (.long j2), .second, .val (.int p3), .val (.int p4), .val (.int p5), .val (.int (0 : Int32)), .val (.int nn), .val (.int c0), .val (.int c1), .val (.int c2), .val (.ref r_146), .val (.ref r_147), .unset, .unset, .unset, .unset, .unset, .unset] [(.long ((j2.toUInt64 >>> ((32 : Int32) &&& 0x3f).toInt64.toUInt64).toInt64))]))
    refine Go.step (fun _ k => X_147.ldc2Long hx hown_146 (mvT hZ_146 (wd_0 hw)) (g := (mkF m 85 #[.val (.int p0), .val (.int p1), .val (.long j2), .second, .val (.int p3), .val (.int p4), .val (.int p5), .val (.int (0 : Int32)), .val (.int nn), .val (.int c0), .val (.int c1), .val (.int c2), .val (.ref r_146), .val (.ref r_147), .unset, .unset, .unset, .unset, .unset, .unset] [(.long ((j2.toUInt64 >>> ((32 : Int32) &&& 0x3f).toInt64.toUInt64).toInt64))])) rfl (hb hby at_85) _ k) ?_
    show Go p e below _ (T_147.setTop (mkF m 88 #[.val (.int p0), .val (.int p1), .val (.long j2), .second, .val (.int p3), .val (.int p4), .val (.int p5), .val (.int (0 : Int32)), .val (.int nn), .val (.int c0), .val (.int c1), .val (.int c2), .val (.ref r_146), .val (.ref r_147), .unset, .unset, .unset, .unset, .unset, .unset] [(.long (255 : Int64)), (.long ((j2.toUInt64 >>> ((32 : Int32) &&& 0x3f).toInt64.toUInt64).toInt64))]))
    refine Go.step (fun _ k => XS.land X_147.here hx rfl (hb hby at_88) rfl k) ?_
    show Go p e below _ (T_147.setTop (mkF m 89 #[.val (.int p0), .val (.int p1), .val (.long j2), .second, .val (.int p3), .val (.int p4), .val (.int p5), .val (.int (0 : Int32)), .val (.int nn), .val (.int c0), .val (.int c1), .val (.int c2), .val (.ref r_146), .val (.ref r_147), .unset, .unset, .unset, .unset, .unset, .unset] [(.long (((j2.toUInt64 >>> ((32 : Int32) &&& 0x3f).toInt64.toUInt64).toInt64) &&& (255 : Int64)))]))
    refine Go.step (fun _ k => XS.l2i X_147.here hx rfl (hb hby at_89) rfl k) ?_
    show Go p e below _ (T_147.setTop (mkF m 90 #[.val (.int p0), .val (.int p1), .val (.long j2), .second, .val (.int p3), .val (.int p4), .val (.int p5), .val (.int (0 : Int32)), .val (.int nn), .val (.int c0), .val (.int c1), .val (.int c2), .val (.ref r_146), .val (.ref r_147), .unset, .unset, .unset, .unset, .unset, .unset] [(.int (((j2.toUInt64 >>> ((32 : Int32) &&& 0x3f).toInt64.toUInt64).toInt64) &&& (255 : Int64)).toInt32)]))
    refine Go.step (fun _ k => XS.i2c X_147.here hx rfl (hb hby at_90) rfl k) ?_
    show Go p e below _ (T_147.setTop (mkF m 91 #[.val (.int p0), .val (.int p1), .val (.long j2), .second, .val (.int p3), .val (.int p4), .val (.int p5), .val (.int (0 : Int32)), .val (.int nn), .val (.int c0), .val (.int c1), .val (.int c2), .val (.ref r_146), .val (.ref r_147), .unset, .unset, .unset, .unset, .unset, .unset] [(.int (nar .char (((j2.toUInt64 >>> ((32 : Int32) &&& 0x3f).toInt64.toUInt64).toInt64) &&& (255 : Int64)).toInt32))]))
    refine own_top (congrArg Value.int (show (nar .char (((j2.toUInt64 >>> ((32 : Int32) &&& 0x3f).toInt64.toUInt64).toInt64) &&& (255 : Int64)).toInt32) = (((j2.toUInt64 >>> ((32 : Int32) &&& 0x3f).toInt64.toUInt64).toInt64) &&& (255 : Int64)).toInt32 from narL _)) ?_
    show Go p e below _ (T_147.setTop (mkF m 91 #[.val (.int p0), .val (.int p1), .val (.long j2), .second, .val (.int p3), .val (.int p4), .val (.int p5), .val (.int (0 : Int32)), .val (.int nn), .val (.int c0), .val (.int c1), .val (.int c2), .val (.ref r_146), .val (.ref r_147), .unset, .unset, .unset, .unset, .unset, .unset] [(.int (((j2.toUInt64 >>> ((32 : Int32) &&& 0x3f).toInt64.toUInt64).toInt64) &&& (255 : Int64)).toInt32)]))
    obtain ⟨v_148, T_148, L_148, X_148, hQ_148, st_148⟩ := goS X_147 hx hZ_146 (y := ({ cls := "java/lang/String", name := "valueOf", desc := "(C)Ljava/lang/String;" } : Jvm.MethodName)) hown_146 (wd_35 hw) (wd_36 hw) (wd_7 hw) (wd_37 hw) (by decide) (backOf (W := 0) (rm_valueOf l Z a0 hw zc kd0 kd1 kd2 kd3 kd4 kd5 kd6 kd7 kd8 kd9 kd10 kd11 kd12 kd13 kd14 kd15 kd16 kd17 ((((j2.toUInt64 >>> ((32 : Int32) &&& 0x3f).toInt64.toUInt64).toInt64) &&& (255 : Int64)).toInt32) T_147.heap n0 (Nat.le_trans Z0 KP_147.1) (latL _) hSt O_147) hZ_146 (wd_37 hw) (wd_7 hw) (by decide) (by decide)) rfl (g := (mkF m 91 #[.val (.int p0), .val (.int p1), .val (.long j2), .second, .val (.int p3), .val (.int p4), .val (.int p5), .val (.int (0 : Int32)), .val (.int nn), .val (.int c0), .val (.int c1), .val (.int c2), .val (.ref r_146), .val (.ref r_147), .unset, .unset, .unset, .unset, .unset, .unset] [(.int (((j2.toUInt64 >>> ((32 : Int32) &&& 0x3f).toInt64.toUInt64).toInt64) &&& (255 : Int64)).toInt32)])) rfl (by rw [hml]; rfl) (argsL := [(.int (((j2.toUInt64 >>> ((32 : Int32) &&& 0x3f).toInt64.toUInt64).toInt64) &&& (255 : Int64)).toInt32)]) (rest := []) rfl (lenOf pd_8 rfl) rfl (by show 2 * 0 + _ ≤ _; exact Nat.le_of_eq rfl) (hb hby at_91) (by decide) (by decide)
    obtain ⟨r_148, rfl, Nq_148, K_148, u0_148, u1_148⟩ := hQ_148
    have N_148 := Fr.app N_147 Nq_148
    have C_148 := CHr.keep K_148 sf0 C_147.1
    have CR_148 := CHr.trans CR_147 C_148
    have le_148 : T_147.heap.size ≤ T_148.heap.size := K_148.1
    have KP_148 := KP_147.trans K_148 all0
    have O_148 := O_147.keep K_148 all0
    have sz_r_148 : h0.size ≤ r_148 := Nat.le_trans (Nat.le_trans le_146 le_147) u0_148
    have g_r_148 : n0 ≤ r_148 := Nat.le_trans Z0 sz_r_148
    refine Go.step st_148 ?_
    show Go p e below _ (T_148.setTop (mkF m 94 #[.val (.int p0), .val (.int p1), .val (.long j2), .second, .val (.int p3), .val (.int p4), .val (.int p5), .val (.int (0 : Int32)), .val (.int nn), .val (.int c0), .val (.int c1), .val (.int c2), .val (.ref r_146), .val (.ref r_147), .unset, .unset, .unset, .unset, .unset, .unset] [(.ref r_148)]))
    refine Go.step (fun _ k => XS.astore X_148.here hx rfl (hb hby at_94) rfl rfl (l' := #[.val (.int p0), .val (.int p1), .val (.long j2), .second, .val (.int p3), .val (.int p4), .val (.int p5), .val (.int (0 : Int32)), .val (.int nn), .val (.int c0), .val (.int c1), .val (.int c2), .val (.ref r_146), .val (.ref r_147), .val (.ref r_148), .unset, .unset, .unset, .unset, .unset]) rfl k) ?_
    show Go p e below _ (T_148.setTop (mkF m 96 #[.val (.int p0), .val (.int p1), .val (.long j2), .second, .val (.int p3), .val (.int p4), .val (.int p5), .val (.int (0 : Int32)), .val (.int nn), .val (.int c0), .val (.int c1), .val (.int c2), .val (.ref r_146), .val (.ref r_147), .val (.ref r_148), .unset, .unset, .unset, .unset, .unset] []))
    obtain ⟨T_149, h_149, X_149, e_149, E_149, A_149, D_149, -, st_149⟩ := newO X_148 hx hZ_146 hown_146 (wd_49 hw) (wd_50 hw) (wd_51 hw) rfl (g := (mkF m 96 #[.val (.int p0), .val (.int p1), .val (.long j2), .second, .val (.int p3), .val (.int p4), .val (.int p5), .val (.int (0 : Int32)), .val (.int nn), .val (.int c0), .val (.int c1), .val (.int c2), .val (.ref r_146), .val (.ref r_147), .val (.ref r_148), .unset, .unset, .unset, .unset, .unset] [])) rfl (hb hby at_96) (by decide) (by decide)
    obtain ⟨b149, q_149⟩ : ∃ z, z = T_148.heap.size := ⟨_, rfl⟩
    rw [← q_149] at A_149 D_149 st_149
    refine Go.step st_149 ?_
    have C_149 := CHr.ext E_149 C_148.1
    have CR_149 := CHr.trans CR_148 C_149
    have le_149 : T_148.heap.size ≤ h_149.size := E_149.1
    have KP_149 := KP_148.ext E_149
    have O_149 := O_148.ext E_149
    have ge_149 : T_148.heap.size ≤ b149 := Nat.le_of_eq q_149.symm
    have sz_b149 : h0.size ≤ b149 := Nat.le_trans (Nat.le_trans le_146 (Nat.le_trans le_147 le_148)) ge_149
    have g_b149 : n0 ≤ b149 := Nat.le_trans Z0 sz_b149
    have F_149_65 : Fld Z h_149 b149 "com/example/stubwright/stubwright/SourcePosition" "file" "Ljava/lang/String;" .null := D_149 (Or.inr (wd_65 hw)) (ty := (.object "java/lang/String")) pf_2
    have F_149_67 : Fld Z h_149 b149 "com/example/stubwright/stubwright/SourcePosition" "line" "I" (.int (0 : Int32)) := D_149 (Or.inr (wd_67 hw)) (ty := .int) pf_3
    have F_149_69 : Fld Z h_149 b149 "com/example/stubwright/stubwright/SourcePosition" "column" "I" (.int (0 : Int32)) := D_149 (Or.inr (wd_69 hw)) (ty := .int) pf_3
    have Sf_b149 := Safe.ext E_149 C_148.1 (Safe.new ge_149)
    show Go p e below _ (T_149.setTop (mkF m 99 #[.val (.int p0), .val (.int p1), .val (.long j2), .second, .val (.int p3), .val (.int p4), .val (.int p5), .val (.int (0 : Int32)), .val (.int nn), .val (.int c0), .val (.int c1), .val (.int c2), .val (.ref r_146), .val (.ref r_147), .val (.ref r_148), .unset, .unset, .unset, .unset, .unset] [(.ref b149)]))
    refine Go.step (fun _ k => XS.dup X_149.here hx rfl (hb hby at_99) rfl rfl k) ?_
    show Go p e below _ (T_149.setTop (mkF m 100 #[.val (.int p0), .val (.int p1), .val (.long j2), .second, .val (.int p3), .val (.int p4), .val (.int p5), .val (.int (0 : Int32)), .val (.int nn), .val (.int c0), .val (.int c1), .val (.int c2), .val (.ref r_146), .val (.ref r_147), .val (.ref r_148), .unset, .unset, .unset, .unset, .unset] [(.ref b149), (.ref b149)]))
    refine Go.step (fun _ k => XS.aload X_149.here hx rfl (hb hby at_100) rfl rfl k) ?_
    show Go p e below _ (T_149.setTop (mkF m 102 #[.val (.int p0), .val (.int p1), .val (.long j2), .second, .val (.int p3), .val (.int p4), .val (.int p5), .val (.int (0 : Int32)), .val (.int nn), .val (.int c0), .val (.int c1), .val (.int c2), .val (.ref r_146), .val (.ref r_147), .val (.ref r_148), .unset, .unset, .unset, .unset, .unset] [(.ref r_147), (.ref b149), (.ref b149)]))
    refine Go.step (fun _ k => XS.iload X_149.here hx rfl (hb hby at_102) rfl  k) ?_
    show Go p e below _ (T_149.setTop (mkF m 104 #[.val (.int p0), .val (.int p1), .val (.long j2), .second, .val (.int p3), .val (.int p4), .val (.int p5), .val (.int (0 : Int32)), .val (.int nn), .val (.int c0), .val (.int c1), .val (.int c2), .val (.ref r_146), .val (.ref r_147), .val (.ref r_148), .unset, .unset, .unset, .unset, .unset] [(.int p5), (.ref r_147), (.ref b149), (.ref b149)]))
    refine Go.step (fun _ k => XS.iload X_149.here hx rfl (hb hby at_104) rfl  k) ?_
    show Go p e below _ (T_149.setTop (mkF m 106 #[.val (.int p0), .val (.int p1), .val (.long j2), .second, .val (.int p3), .val (.int p4), .val (.int p5), .val (.int (0 : Int32)), .val (.int nn), .val (.int c0), .val (.int c1), .val (.int c2), .val (.ref r_146), .val (.ref r_147), .val (.ref r_148), .unset, .unset, .unset, .unset, .unset] [(.int p5), (.int p5), (.ref r_147), (.ref b149), (.ref b149)]))
    refine Go.step (fun _ k => XS.iload X_149.here hx rfl (hb hby at_106) rfl  k) ?_
    show Go p e below _ (T_149.setTop (mkF m 108 #[.val (.int p0), .val (.int p1), .val (.long j2), .second, .val (.int p3), .val (.int p4), .val (.int p5), .val (.int (0 : Int32)), .val (.int nn), .val (.int c0), .val (.int c1), .val (.int c2), .val (.ref r_146), .val (.ref r_147), .val (.ref r_148), .unset, .unset, .unset, .unset, .unset] [(.int p4), (.int p5), (.int p5), (.ref r_147), (.ref b149), (.ref b149)]))
    refine Go.step (fun _ k => XS.ixor X_149.here hx rfl (hb hby at_108) rfl k) ?_
    show Go p e below _ (T_149.setTop (mkF m 109 #[.val (.int p0), .val (.int p1), .val (.long j2), .second, .val (.int p3), .val (.int p4), .val (.int p5), .val (.int (0 : Int32)), .val (.int nn), .val (.int c0), .val (.int c1), .val (.int c2), .val (.ref r_146), .val (.ref r_147), .val (.ref r_148), .unset, .unset, .unset, .unset, .unset] [(.int (p5 ^^^ p4)), (.int p5), (.ref r_147), (.ref b149), (.ref b149)]))
    have f150 : Str Z T_147.heap.size h_149 r_147 ([(((j2.toUInt64 >>> ((24 : Int32) &&& 0x3f).toInt64.toUInt64).toInt64) &&& (255 : Int64)).toInt32] : List Int32) := ((u1_147.keep K_148 all0).ext E_149)
    obtain ⟨v_151, T_151, L_151, X_151, hQ_151, hS_151, hZ_151, hown_151, C_151, st_151⟩ := goCW X_149 hx hZ_146 (y := ({ cls := "com/example/stubwright/stubwright/SourcePosition", name := "<init>", desc := "(Ljava/lang/String;II)V" } : Jvm.MethodName)) hown_146 hS_146 (Nat.le_trans (Nat.le_refl _) (Nat.le_trans le_147 (Nat.le_trans le_148 le_149))) rfl (wd_52 hw) (wd_53 hw) (wd_54 hw) (by decide) (backOfSH (W := 1) (rm_initSP l Z a0 hw zc kd0 kd1 kd2 kd3 kd4 kd5 kd6 kd7 kd8 kd9 kd10 kd11 kd12 kd13 kd14 kd15 kd16 kd17 (b149) (r_147) (([(((j2.toUInt64 >>> ((24 : Int32) &&& 0x3f).toInt64.toUInt64).toInt64) &&& (255 : Int64)).toInt32] : List Int32)) (p5) ((p5 ^^^ p4)) h_149 n0 (Nat.le_trans Z0 KP_149.1) A_149 g_b149 (f150.mono (Nat.le_trans le_148 le_149)) F_149_65 F_149_67 F_149_69 hSt O_149) hZ_146 (wd_54 hw) (wd_51 hw) (by decide) (by decide) hEL C_149.1) e_149 (g := (mkF m 109 #[.val (.int p0), .val (.int p1), .val (.long j2), .second, .val (.int p3), .val (.int p4), .val (.int p5), .val (.int (0 : Int32)), .val (.int nn), .val (.int c0), .val (.int c1), .val (.int c2), .val (.ref r_146), .val (.ref r_147), .val (.ref r_148), .unset, .unset, .unset, .unset, .unset] [(.int (p5 ^^^ p4)), (.int p5), (.ref r_147), (.ref b149), (.ref b149)])) rfl (by rw [hml]; rfl) (a := b149) (argsL := [(.ref r_147), (.int p5), (.int (p5 ^^^ p4))]) (rest := [(.ref b149)]) rfl (lenOf pd_9 rfl) rfl (by show 2 * 0 + _ ≤ _; exact Nat.le_of_eq rfl) (hb hby at_109) (by decide) (by decide)
    obtain ⟨rfl, Nq_151, K_151⟩ := hQ_151
    have N_151 := Fr.app N_148 Nq_151
    have CR_151 := CHr.trans CR_149 C_151
    have le_151 : h_149.size ≤ T_151.heap.size := K_151.1
    have KP_151 := KP_149.trans K_151 (allS (Or.inr sz_b149) all0)
    have O_151 := O_149.keep K_151 (allS g_b149 all0)
    refine Go.step st_151 ?_
    show Go p e below _ (T_151.setTop (mkF m 112 #[.val (.int p0), .val (.int p1), .val (.long j2), .second, .val (.int p3), .val (.int p4), .val (.int p5), .val (.int (0 : Int32)), .val (.int nn), .val (.int c0), .val (.int c1), .val (.int c2), .val (.ref r_146), .val (.ref r_147), .val (.ref r_148), .unset, .unset, .unset, .unset, .unset] [(.ref b149)]))
    refine Go.step (fun _ k => XS.astore X_151.here hx rfl (hb hby at_112) rfl rfl (l' := #[.val (.int p0), .val (.int p1), .val (.long j2), .second, .val (.int p3), .val (.int p4), .val (.int p5), .val (.int (0 : Int32)), .val (.int nn), .val (.int c0), .val (.int c1), .val (.int c2), .val (.ref r_146), .val (.ref r_147), .val (.ref r_148), .val (.ref b149), .unset, .unset, .unset, .unset]) rfl k) ?_
    show Go p e below _ (T_151.setTop (mkF m 114 #[.val (.int p0), .val (.int p1), .val (.long j2), .second, .val (.int p3), .val (.int p4), .val (.int p5), .val (.int (0 : Int32)), .val (.int nn), .val (.int c0), .val (.int c1), .val (.int c2), .val (.ref r_146), .val (.ref r_147), .val (.ref r_148), .val (.ref b149), .unset, .unset, .unset, .unset] []))
    obtain ⟨T_152, h_152, X_152, e_152, E_152, A_152, D_152, -, st_152⟩ := newO X_151 hx hZ_151 hown_151 (wd_49 hw) (wd_50 hw) (wd_51 hw) rfl (g := (mkF m 114 #[.val (.int p0), .val (.int p1), .val (.long j2), .second, .val (.int p3), .val (.int p4), .val (.int p5), .val (.int (0 : Int32)), .val (.int nn), .val (.int c0), .val (.int c1), .val (.int c2), .val (.ref r_146), .val (.ref r_147), .val (.ref r_148), .val (.ref b149), .unset, .unset, .unset, .unset] [])) rfl (hb hby at_114) (by decide) (by decide)
    obtain ⟨b152, q_152⟩ : ∃ z, z = T_151.heap.size := ⟨_, rfl⟩
    rw [← q_152] at A_152 D_152 st_152
    refine Go.step st_152 ?_
    have C_152 := CHr.ext E_152 C_151.1
    have CR_152 := CHr.trans CR_151 C_152
    have le_152 : T_151.heap.size ≤ h_152.size := E_152.1
    have KP_152 := KP_151.ext E_152
    have O_152 := O_151.ext E_152
    have ge_152 : T_151.heap.size ≤ b152 := Nat.le_of_eq q_152.symm
    have sz_b152 : h0.size ≤ b152 := Nat.le_trans (Nat.le_trans le_146 (Nat.le_trans le_147 (Nat.le_trans le_148 (Nat.le_trans le_149 le_151)))) ge_152
    have g_b152 : n0 ≤ b152 := Nat.le_trans Z0 sz_b152
    have F_152_65 : Fld Z h_152 b152 "com/example/stubwright/stubwright/SourcePosition" "file" "Ljava/lang/String;" .null := D_152 (Or.inr (wd_65 hw)) (ty := (.object "java/lang/String")) pf_2
    have F_152_67 : Fld Z h_152 b152 "com/example/stubwright/stubwright/SourcePosition" "line" "I" (.int (0 : Int32)) := D_152 (Or.inr (wd_67 hw)) (ty := .int) pf_3
    have F_152_69 : Fld Z h_152 b152 "com/example/stubwright/stubwright/SourcePosition" "column" "I" (.int (0 : Int32)) := D_152 (Or.inr (wd_69 hw)) (ty := .int) pf_3
    have Sf_b152 := Safe.ext E_152 C_151.1 (Safe.new ge_152)
    show Go p e below _ (T_152.setTop (mkF m 117 #[.val (.int p0), .val (.int p1), .val (.long j2), .second, .val (.int p3), .val (.int p4), .val (.int p5), .val (.int (0 : Int32)), .val (.int nn), .val (.int c0), .val (.int c1), .val (.int c2), .val (.ref r_146), .val (.ref r_147), .val (.ref r_148), .val (.ref b149), .unset, .unset, .unset, .unset] [(.ref b152)]))
    refine Go.step (fun _ k => XS.dup X_152.here hx rfl (hb hby at_117) rfl rfl k) ?_
    show Go p e below _ (T_152.setTop (mkF m 118 #[.val (.int p0), .val (.int p1), .val (.long j2), .second, .val (.int p3), .val (.int p4), .val (.int p5), .val (.int (0 : Int32)), .val (.int nn), .val (.int c0), .val (.int c1), .val (.int c2), .val (.ref r_146), .val (.ref r_147), .val (.ref r_148), .val (.ref b149), .unset, .unset, .unset, .unset] [(.ref b152), (.ref b152)]))
    refine Go.step (fun _ k => XS.aload X_152.here hx rfl (hb hby at_118) rfl rfl k) ?_
    show Go p e below _ (T_152.setTop (mkF m 120 #[.val (.int p0), .val (.int p1), .val (.long j2), .second, .val (.int p3), .val (.int p4), .val (.int p5), .val (.int (0 : Int32)), .val (.int nn), .val (.int c0), .val (.int c1), .val (.int c2), .val (.ref r_146), .val (.ref r_147), .val (.ref r_148), .val (.ref b149), .unset, .unset, .unset, .unset] [(.ref r_148), (.ref b152), (.ref b152)]))
    refine Go.step (fun _ k => XS.iload X_152.here hx rfl (hb hby at_120) rfl  k) ?_
    show Go p e below _ (T_152.setTop (mkF m 122 #[.val (.int p0), .val (.int p1), .val (.long j2), .second, .val (.int p3), .val (.int p4), .val (.int p5), .val (.int (0 : Int32)), .val (.int nn), .val (.int c0), .val (.int c1), .val (.int c2), .val (.ref r_146), .val (.ref r_147), .val (.ref r_148), .val (.ref b149), .unset, .unset, .unset, .unset] [(.int p3), (.ref r_148), (.ref b152), (.ref b152)]))
    refine Go.step (fun _ k => XS.iload X_152.here hx rfl (hb hby at_122) rfl  k) ?_
    show Go p e below _ (T_152.setTop (mkF m 124 #[.val (.int p0), .val (.int p1), .val (.long j2), .second, .val (.int p3), .val (.int p4), .val (.int p5), .val (.int (0 : Int32)), .val (.int nn), .val (.int c0), .val (.int c1), .val (.int c2), .val (.ref r_146), .val (.ref r_147), .val (.ref r_148), .val (.ref b149), .unset, .unset, .unset, .unset] [(.int p4), (.int p3), (.ref r_148), (.ref b152), (.ref b152)]))
    have f153 : Str Z T_148.heap.size h_152 r_148 ([(((j2.toUInt64 >>> ((32 : Int32) &&& 0x3f).toInt64.toUInt64).toInt64) &&& (255 : Int64)).toInt32] : List Int32) := (((u1_148.ext E_149).keep K_151 (allS (Nat.le_trans (Nat.le_refl _) ge_149) all0)).ext E_152)
    obtain ⟨v_154, T_154, L_154, X_154, hQ_154, hS_154, hZ_154, hown_154, C_154, st_154⟩ := goCW X_152 hx hZ_151 (y := ({ cls := "com/example/stubwright/stubwright/SourcePosition", name := "<init>", desc := "(Ljava/lang/String;II)V" } : Jvm.MethodName)) hown_151 hS_151 (Nat.le_trans (Nat.le_refl _) le_152) rfl (wd_52 hw) (wd_53 hw) (wd_54 hw) (by decide) (backOfSH (W := 1) (rm_initSP l Z a0 hw zc kd0 kd1 kd2 kd3 kd4 kd5 kd6 kd7 kd8 kd9 kd10 kd11 kd12 kd13 kd14 kd15 kd16 kd17 (b152) (r_148) (([(((j2.toUInt64 >>> ((32 : Int32) &&& 0x3f).toInt64.toUInt64).toInt64) &&& (255 : Int64)).toInt32] : List Int32)) (p3) (p4) h_152 n0 (Nat.le_trans Z0 KP_152.1) A_152 g_b152 (f153.mono (Nat.le_trans le_149 (Nat.le_trans le_151 le_152))) F_152_65 F_152_67 F_152_69 hSt O_152) hZ_151 (wd_54 hw) (wd_51 hw) (by decide) (by decide) hEL C_152.1) e_152 (g := (mkF m 124 #[.val (.int p0), .val (.int p1), .val (.long j2), .second, .val (.int p3), .val (.int p4), .val (.int p5), .val (.int (0 : Int32)), .val (.int nn), .val (.int c0), .val (.int c1), .val (.int c2), .val (.ref r_146), .val (.ref r_147), .val (.ref r_148), .val (.ref b149), .unset, .unset, .unset, .unset] [(.int p4), (.int p3), (.ref r_148), (.ref b152), (.ref b152)])) rfl (by rw [hml]; rfl) (a := b152) (argsL := [(.ref r_148), (.int p3), (.int p4)]) (rest := [(.ref b152)]) rfl (lenOf pd_9 rfl) rfl (by show 2 * 0 + _ ≤ _; exact Nat.le_of_eq rfl) (hb hby at_124) (by decide) (by decide)
    obtain ⟨rfl, Nq_154, K_154⟩ := hQ_154
    have N_154 := Fr.app N_151 Nq_154
    have CR_154 := CHr.trans CR_152 C_154
    have le_154 : h_152.size ≤ T_154.heap.size := K_154.1
    have KP_154 := KP_152.trans K_154 (allS (Or.inr sz_b152) all0)
    have O_154 := O_152.keep K_154 (allS g_b152 all0)
    refine Go.step st_154 ?_
    show Go p e below _ (T_154.setTop (mkF m 127 #[.val (.int p0), .val (.int p1), .val (.long j2), .second, .val (.int p3), .val (.int p4), .val (.int p5), .val (.int (0 : Int32)), .val (.int nn), .val (.int c0), .val (.int c1), .val (.int c2), .val (.ref r_146), .val (.ref r_147), .val (.ref r_148), .val (.ref b149), .unset, .unset, .unset, .unset] [(.ref b152)]))
    refine Go.step (fun _ k => XS.astore X_154.here hx rfl (hb hby at_127) rfl rfl (l' := #[.val (.int p0), .val (.int p1), .val (.long j2), .second, .val (.int p3), .val (.int p4), .val (.int p5), .val (.int (0 : Int32)), .val (.int nn), .val (.int c0), .val (.int c1), .val (.int c2), .val (.ref r_146), .val (.ref r_147), .val (.ref r_148), .val (.ref b149), .val (.ref b152), .unset, .unset, .unset]) rfl k) ?_
    show Go p e below _ (T_154.setTop (mkF m 129 #[.val (.int p0), .val (.int p1), .val (.long j2), .second, .val (.int p3), .val (.int p4), .val (.int p5), .val (.int (0 : Int32)), .val (.int nn), .val (.int c0), .val (.int c1), .val (.int c2), .val (.ref r_146), .val (.ref r_147), .val (.ref r_148), .val (.ref b149), .val (.ref b152), .unset, .unset, .unset] []))
    refine Go.step (fun _ k => XS.iload X_154.here hx rfl (hb hby at_129) rfl  k) ?_
    show Go p e below _ (T_154.setTop (mkF m 131 #[.val (.int p0), .val (.int p1), .val (.long j2), .second, .val (.int p3), .val (.int p4), .val (.int p5), .val (.int (0 : Int32)), .val (.int nn), .val (.int c0), .val (.int c1), .val (.int c2), .val (.ref r_146), .val (.ref r_147), .val (.ref r_148), .val (.ref b149), .val (.ref b152), .unset, .unset, .unset] [(.int (0 : Int32))]))
    refine Go.step (fun _ k => XS.ifYes X_154.here hx rfl (pc0 := 131) (pc' := 140) rfl (hb hby at_131) rfl ((if0 _ _).trans (teq ((by decide) : (0 : Int32) = (0 : Int32))).1) (by decide) (by decide) k) ?_
    show Go p e below _ (T_154.setTop (mkF m 140 #[.val (.int p0), .val (.int p1), .val (.long j2), .second, .val (.int p3), .val (.int p4), .val (.int p5), .val (.int (0 : Int32)), .val (.int nn), .val (.int c0), .val (.int c1), .val (.int c2), .val (.ref r_146), .val (.ref r_147), .val (.ref r_148), .val (.ref b149), .val (.ref b152), .unset, .unset, .unset] []))
    refine Go.step (fun _ k => XS.iloadN X_154.here hx rfl (hb hby at_140) rfl  k) ?_
    show Go p e below _ (T_154.setTop (mkF m 141 #[.val (.int p0), .val (.int p1), .val (.long j2), .second, .val (.int p3), .val (.int p4), .val (.int p5), .val (.int (0 : Int32)), .val (.int nn), .val (.int c0), .val (.int c1), .val (.int c2), .val (.ref r_146), .val (.ref r_147), .val (.ref r_148), .val (.ref b149), .val (.ref b152), .unset, .unset, .unset] [(.int p0)]))
    obtain ⟨v_155, T_155, L_155, X_155, hQ_155, st_155⟩ := goS X_154 hx hZ_154 (y := ({ cls := "com/example/stubwright/stubwright/idl/TokenMovedToPinLaw", name := "kindOf", desc := "(I)Lcom/example/stubwright/stubwright/idl/Token$Kind;" } : Jvm.MethodName)) hown_154 (wd_123 hw) (wd_124 hw) (wd_3 hw) (wd_125 hw) (by decide) (backOf (W := 0) (rm_kindOf l Z a0 hw zc kd0 kd1 kd2 kd3 kd4 kd5 kd6 kd7 kd8 kd9 kd10 kd11 kd12 kd13 kd14 kd15 kd16 kd17 (p0) T_154.heap n0 (Nat.le_trans Z0 KP_154.1) hSt O_154) hZ_154 (wd_125 hw) (wd_3 hw) (by decide) (by decide)) rfl (g := (mkF m 141 #[.val (.int p0), .val (.int p1), .val (.long j2), .second, .val (.int p3), .val (.int p4), .val (.int p5), .val (.int (0 : Int32)), .val (.int nn), .val (.int c0), .val (.int c1), .val (.int c2), .val (.ref r_146), .val (.ref r_147), .val (.ref r_148), .val (.ref b149), .val (.ref b152), .unset, .unset, .unset] [(.int p0)])) rfl (by rw [hml]; rfl) (argsL := [(.int p0)]) (rest := []) rfl (lenOf pd_10 rfl) rfl (by show 2 * 0 + _ ≤ _; exact Nat.le_of_eq rfl) (hb hby at_141) (by decide) (by decide)
    obtain ⟨r_155, rfl, Nq_155, e_155⟩ := hQ_155
    have N_155 := Fr.app N_154 Nq_155
    refine Go.step st_155 ?_
    show Go p e below _ (T_155.setTop (mkF m 144 #[.val (.int p0), .val (.int p1), .val (.long j2), .second, .val (.int p3), .val (.int p4), .val (.int p5), .val (.int (0 : Int32)), .val (.int nn), .val (.int c0), .val (.int c1), .val (.int c2), .val (.ref r_146), .val (.ref r_147), .val (.ref r_148), .val (.ref b149), .val (.ref b152), .unset, .unset, .unset] [(.ref r_155)]))
    refine Go.step (fun _ k => XS.astore X_155.here hx rfl (hb hby at_144) rfl rfl (l' := #[.val (.int p0), .val (.int p1), .val (.long j2), .second, .val (.int p3), .val (.int p4), .val (.int p5), .val (.int (0 : Int32)), .val (.int nn), .val (.int c0), .val (.int c1), .val (.int c2), .val (.ref r_146), .val (.ref r_147), .val (.ref r_148), .val (.ref b149), .val (.ref b152), .val (.ref r_155), .unset, .unset]) rfl k) ?_
    show Go p e below _ (T_155.setTop (mkF m 146 #[.val (.int p0), .val (.int p1), .val (.long j2), .second, .val (.int p3), .val (.int p4), .val (.int p5), .val (.int (0 : Int32)), .val (.int nn), .val (.int c0), .val (.int c1), .val (.int c2), .val (.ref r_146), .val (.ref r_147), .val (.ref r_148), .val (.ref b149), .val (.ref b152), .val (.ref r_155), .unset, .unset] []))
    refine Go.step (fun _ k => XS.iload X_155.here hx rfl (hb hby at_146) rfl  k) ?_
    show Go p e below _ (T_155.setTop (mkF m 148 #[.val (.int p0), .val (.int p1), .val (.long j2), .second, .val (.int p3), .val (.int p4), .val (.int p5), .val (.int (0 : Int32)), .val (.int nn), .val (.int c0), .val (.int c1), .val (.int c2), .val (.ref r_146), .val (.ref r_147), .val (.ref r_148), .val (.ref b149), .val (.ref b152), .val (.ref r_155), .unset, .unset] [(.int (0 : Int32))]))
    refine Go.step (fun _ k => XS.ifYes X_155.here hx rfl (pc0 := 148) (pc' := 161) rfl (hb hby at_148) rfl ((if0 _ _).trans (teq ((by decide) : (0 : Int32) = (0 : Int32))).1) (by decide) (by decide) k) ?_
    show Go p e below _ (T_155.setTop (mkF m 161 #[.val (.int p0), .val (.int p1), .val (.long j2), .second, .val (.int p3), .val (.int p4), .val (.int p5), .val (.int (0 : Int32)), .val (.int nn), .val (.int c0), .val (.int c1), .val (.int c2), .val (.ref r_146), .val (.ref r_147), .val (.ref r_148), .val (.ref b149), .val (.ref b152), .val (.ref r_155), .unset, .unset] []))
    obtain ⟨T_156, h_156, X_156, e_156, E_156, A_156, D_156, -, st_156⟩ := newO X_155 hx hZ_154 hown_154 (wd_129 hw) (wd_78 hw) (wd_75 hw) e_155 (g := (mkF m 161 #[.val (.int p0), .val (.int p1), .val (.long j2), .second, .val (.int p3), .val (.int p4), .val (.int p5), .val (.int (0 : Int32)), .val (.int nn), .val (.int c0), .val (.int c1), .val (.int c2), .val (.ref r_146), .val (.ref r_147), .val (.ref r_148), .val (.ref b149), .val (.ref b152), .val (.ref r_155), .unset, .unset] [])) rfl (hb hby at_161) (by decide) (by decide)
    obtain ⟨b156, q_156⟩ : ∃ z, z = T_154.heap.size := ⟨_, rfl⟩
    rw [← q_156] at A_156 D_156 st_156
    refine Go.step st_156 ?_
    have C_156 := CHr.ext E_156 C_154.1
    have CR_156 := CHr.trans CR_154 C_156
    have le_156 : T_154.heap.size ≤ h_156.size := E_156.1
    have KP_156 := KP_154.ext E_156
    have O_156 := O_154.ext E_156
    have ge_156 : T_154.heap.size ≤ b156 := Nat.le_of_eq q_156.symm
    have sz_b156 : h0.size ≤ b156 := Nat.le_trans (Nat.le_trans le_146 (Nat.le_trans le_147 (Nat.le_trans le_148 (Nat.le_trans le_149 (Nat.le_trans le_151 (Nat.le_trans le_152 le_154)))))) ge_156
    have g_b156 : n0 ≤ b156 := Nat.le_trans Z0 sz_b156
    have F_156_85 : Fld Z h_156 b156 "com/example/stubwright/stubwright/idl/Token" "kind" "Lcom/example/stubwright/stubwright/idl/Token$Kind;" .null := D_156 (Or.inr (wd_85 hw)) (ty := (.object "com/example/stubwright/stubwright/idl/Token$Kind")) pf_4
    have F_156_87 : Fld Z h_156 b156 "com/example/stubwright/stubwright/idl/Token" "text" "Ljava/lang/String;" .null := D_156 (Or.inr (wd_87 hw)) (ty := (.object "java/lang/String")) pf_2
    have F_156_89 : Fld Z h_156 b156 "com/example/stubwright/stubwright/idl/Token" "position" "Lcom/example/stubwright/stubwright/SourcePosition;" .null := D_156 (Or.inr (wd_89 hw)) (ty := (.object "com/example/stubwright/stubwright/SourcePosition")) pf_5
    have F_156_91 : Fld Z h_156 b156 "com/example/stubwright/stubwright/idl/Token" "escaped" "Z" (.int (0 : Int32)) := D_156 (Or.inr (wd_91 hw)) (ty := .boolean) pf_6
    have Sf_b156 := Safe.ext E_156 C_154.1 (Safe.new ge_156)
    show Go p e below _ (T_156.setTop (mkF m 164 #[.val (.int p0), .val (.int p1), .val (.long j2), .second, .val (.int p3), .val (.int p4), .val (.int p5), .val (.int (0 : Int32)), .val (.int nn), .val (.int c0), .val (.int c1), .val (.int c2), .val (.ref r_146), .val (.ref r_147), .val (.ref r_148), .val (.ref b149), .val (.ref b152), .val (.ref r_155), .unset, .unset] [(.ref b156)]))
    refine Go.step (fun _ k => XS.dup X_156.here hx rfl (hb hby at_164) rfl rfl k) ?_
    show Go p e below _ (T_156.setTop (mkF m 165 #[.val (.int p0), .val (.int p1), .val (.long j2), .second, .val (.int p3), .val (.int p4), .val (.int p5), .val (.int (0 : Int32)), .val (.int nn), .val (.int c0), .val (.int c1), .val (.int c2), .val (.ref r_146), .val (.ref r_147), .val (.ref r_148), .val (.ref b149), .val (.ref b152), .val (.ref r_155), .unset, .unset] [(.ref b156), (.ref b156)]))
    refine Go.step (fun _ k => XS.aload X_156.here hx rfl (hb hby at_165) rfl rfl k) ?_
    show Go p e below _ (T_156.setTop (mkF m 167 #[.val (.int p0), .val (.int p1), .val (.long j2), .second, .val (.int p3), .val (.int p4), .val (.int p5), .val (.int (0 : Int32)), .val (.int nn), .val (.int c0), .val (.int c1), .val (.int c2), .val (.ref r_146), .val (.ref r_147), .val (.ref r_148), .val (.ref b149), .val (.ref b152), .val (.ref r_155), .unset, .unset] [(.ref r_155), (.ref b156), (.ref b156)]))
    refine Go.step (fun _ k => XS.aload X_156.here hx rfl (hb hby at_167) rfl rfl k) ?_
    show Go p e below _ (T_156.setTop (mkF m 169 #[.val (.int p0), .val (.int p1), .val (.long j2), .second, .val (.int p3), .val (.int p4), .val (.int p5), .val (.int (0 : Int32)), .val (.int nn), .val (.int c0), .val (.int c1), .val (.int c2), .val (.ref r_146), .val (.ref r_147), .val (.ref r_148), .val (.ref b149), .val (.ref b152), .val (.ref r_155), .unset, .unset] [(.ref r_146), (.ref r_155), (.ref b156), (.ref b156)]))
    refine Go.step (fun _ k => XS.aload X_156.here hx rfl (hb hby at_169) rfl rfl k) ?_
    show Go p e below _ (T_156.setTop (mkF m 171 #[.val (.int p0), .val (.int p1), .val (.long j2), .second, .val (.int p3), .val (.int p4), .val (.int p5), .val (.int (0 : Int32)), .val (.int nn), .val (.int c0), .val (.int c1), .val (.int c2), .val (.ref r_146), .val (.ref r_147), .val (.ref r_148), .val (.ref b149), .val (.ref b152), .val (.ref r_155), .unset, .unset] [(.ref b149), (.ref r_146), (.ref r_155), (.ref b156), (.ref b156)]))
    obtain ⟨v_157, T_157, L_157, X_157, hQ_157, st_157⟩ := goC X_156 hx hZ_154 (y := ({ cls := "com/example/stubwright/stubwright/idl/Token", name := "<init>", desc := "(Lcom/example/stubwright/stubwright/idl/Token$Kind;Ljava/lang/String;Lcom/example/stubwright/stubwright/SourcePosition;)V" } : Jvm.MethodName)) hown_154 rfl (wd_130 hw) (wd_131 hw) (wd_132 hw) (by decide) (backOf (W := 1) (rm_initT3 l Z a0 hw zc kd0 kd1 kd2 kd3 kd4 kd5 kd6 kd7 kd8 kd9 kd10 kd11 kd12 kd13 kd14 kd15 kd16 kd17 (b156) (r_155) (r_146) (b149) h_156 n0 (Nat.le_trans Z0 KP_156.1) A_156 g_b156 F_156_85 F_156_87 F_156_89 F_156_91 hSt O_156) hZ_154 (wd_132 hw) (wd_75 hw) (by decide) (by decide)) e_156 (g := (mkF m 171 #[.val (.int p0), .val (.int p1), .val (.long j2), .second, .val (.int p3), .val (.int p4), .val (.int p5), .val (.int (0 : Int32)), .val (.int nn), .val (.int c0), .val (.int c1), .val (.int c2), .val (.ref r_146), .val (.ref r_147), .val (.ref r_148), .val (.ref b149), .val (.ref b152), .val (.ref r_155), .unset, .unset] [(.ref b149), (.ref r_146), (.ref r_155), (.ref b156), (.ref b156)])) rfl (by rw [hml]; rfl) (a := b156) (argsL := [(.ref r_155), (.ref r_146), (.ref b149)]) (rest := [(.ref b156)]) rfl (lenOf pd_11 rfl) rfl (by show 2 * 0 + _ ≤ _; exact Nat.le_of_eq rfl) (hb hby at_171) (by decide) (by decide)
    obtain ⟨rfl, Nq_157, K_157, u0_157, u1_157, u2_157, u3_157⟩ := hQ_157
    have N_157 := Fr.app N_155 Nq_157
    have C_157 := CHr.keep K_157 (sfS (Safe.exa hZ_154.alike A_156 (by decide) (by decide)) sf0) C_156.1
    have CR_157 := CHr.trans CR_156 C_157
    have le_157 : h_156.size ≤ T_157.heap.size := K_157.1
    have KP_157 := KP_156.trans K_157 (allS (Or.inr sz_b156) all0)
    have O_157 := O_156.keep K_157 (allS g_b156 all0)
    refine Go.step st_157 ?_
    show Go p e below _ (T_157.setTop (mkF m 174 #[.val (.int p0), .val (.int p1), .val (.long j2), .second, .val (.int p3), .val (.int p4), .val (.int p5), .val (.int (0 : Int32)), .val (.int nn), .val (.int c0), .val (.int c1), .val (.int c2), .val (.ref r_146), .val (.ref r_147), .val (.ref r_148), .val (.ref b149), .val (.ref b152), .val (.ref r_155), .unset, .unset] [(.ref b156)]))
    refine Go.step (fun _ k => XS.astore X_157.here hx rfl (hb hby at_174) rfl rfl (l' := #[.val (.int p0), .val (.int p1), .val (.long j2), .second, .val (.int p3), .val (.int p4), .val (.int p5), .val (.int (0 : Int32)), .val (.int nn), .val (.int c0), .val (.int c1), .val (.int c2), .val (.ref r_146), .val (.ref r_147), .val (.ref r_148), .val (.ref b149), .val (.ref b152), .val (.ref r_155), .val (.ref b156), .unset]) rfl k) ?_
    show Go p e below _ (T_157.setTop (mkF m 176 #[.val (.int p0), .val (.int p1), .val (.long j2), .second, .val (.int p3), .val (.int p4), .val (.int p5), .val (.int (0 : Int32)), .val (.int nn), .val (.int c0), .val (.int c1), .val (.int c2), .val (.ref r_146), .val (.ref r_147), .val (.ref r_148), .val (.ref b149), .val (.ref b152), .val (.ref r_155), .val (.ref b156), .unset] []))
    refine Go.step (fun _ k => XS.aload X_157.here hx rfl (hb hby at_176) rfl rfl k) ?_
    show Go p e below _ (T_157.setTop (mkF m 178 #[.val (.int p0), .val (.int p1), .val (.long j2), .second, .val (.int p3), .val (.int p4), .val (.int p5), .val (.int (0 : Int32)), .val (.int nn), .val (.int c0), .val (.int c1), .val (.int c2), .val (.ref r_146), .val (.ref r_147), .val (.ref r_148), .val (.ref b149), .val (.ref b152), .val (.ref r_155), .val (.ref b156), .unset] [(.ref b156)]))
    refine Go.step (fun _ k => XS.aload X_157.here hx rfl (hb hby at_178) rfl rfl k) ?_
    show Go p e below _ (T_157.setTop (mkF m 180 #[.val (.int p0), .val (.int p1), .val (.long j2), .second, .val (.int p3), .val (.int p4), .val (.int p5), .val (.int (0 : Int32)), .val (.int nn), .val (.int c0), .val (.int c1), .val (.int c2), .val (.ref r_146), .val (.ref r_147), .val (.ref r_148), .val (.ref b149), .val (.ref b152), .val (.ref r_155), .val (.ref b156), .unset] [(.ref b152), (.ref b156)]))
    have f159 : Exa Z T_157.heap b156 "com/example/stubwright/stubwright/idl/Token" := (A_156.keep K_157)
    obtain ⟨v_158, T_158, L_158, X_158, hQ_158, st_158⟩ := goV X_157 hx hZ_154 (y := ({ cls := "com/example/stubwright/stubwright/idl/Token", name := "movedTo", desc := "(Lcom/example/stubwright/stubwright/SourcePosition;)Lcom/example/stubwright/stubwright/idl/Token;" } : Jvm.MethodName)) (z := ({ cls := "com/example/stubwright/stubwright/idl/Token", name := "movedTo", desc := "(Lcom/example/stubwright/stubwright/SourcePosition;)Lcom/example/stubwright/stubwright/idl/Token;" } : Jvm.MethodName)) hown_154 (wd_92 hw) (wd_93 hw) (notFace_of_selects (args := #[]) (mvT hZ_154 (wd_95 hw))) (wd_95 hw) (wd_94 hw) (by decide) (backOf (W := 0) (rm_movedTo l Z a0 hw zc kd0 kd1 kd2 kd3 kd4 kd5 kd6 kd7 kd8 kd9 kd10 kd11 kd12 kd13 kd14 kd15 kd16 kd17 (b156) (r_155) (r_146) ((0 : Int32)) (b152) T_157.heap n0 (Nat.le_trans Z0 KP_157.1) u0_157 u1_157 u3_157 (by decide) hSt O_157) hZ_154 (wd_96 hw) (wd_75 hw) (by decide) (by decide)) rfl f159 (g := (mkF m 180 #[.val (.int p0), .val (.int p1), .val (.long j2), .second, .val (.int p3), .val (.int p4), .val (.int p5), .val (.int (0 : Int32)), .val (.int nn), .val (.int c0), .val (.int c1), .val (.int c2), .val (.ref r_146), .val (.ref r_147), .val (.ref r_148), .val (.ref b149), .val (.ref b152), .val (.ref r_155), .val (.ref b156), .unset] [(.ref b152), (.ref b156)])) rfl (by rw [hml]; rfl) (argsL := [(.ref b152)]) (rest := []) rfl (lenOf pd_12 rfl) rfl (by show 2 * 0 + _ ≤ _; exact Nat.le_of_eq rfl) (hb hby at_180) (by decide) (by decide)
    obtain ⟨r_158, rfl, Nq_158, K_158, u0_158, u1_158, u2_158, u3_158, u4_158, u5_158⟩ := hQ_158
    have N_158 := Fr.app N_157 Nq_158
    have C_158 := CHr.keep K_158 sf0 C_157.1
    have CR_158 := CHr.trans CR_157 C_158
    have le_158 : T_157.heap.size ≤ T_158.heap.size := K_158.1
    have KP_158 := KP_157.trans K_158 all0
    have O_158 := O_157.keep K_158 all0
    have sz_r_158 : h0.size ≤ r_158 := Nat.le_trans (Nat.le_trans le_146 (Nat.le_trans le_147 (Nat.le_trans le_148 (Nat.le_trans le_149 (Nat.le_trans le_151 (Nat.le_trans le_152 (Nat.le_trans le_154 (Nat.le_trans le_156 le_157)))))))) u0_158
    have g_r_158 : n0 ≤ r_158 := Nat.le_trans Z0 sz_r_158
    refine Go.step st_158 ?_
    show Go p e below _ (T_158.setTop (mkF m 183 #[.val (.int p0), .val (.int p1), .val (.long j2), .second, .val (.int p3), .val (.int p4), .val (.int p5), .val (.int (0 : Int32)), .val (.int nn), .val (.int c0), .val (.int c1), .val (.int c2), .val (.ref r_146), .val (.ref r_147), .val (.ref r_148), .val (.ref b149), .val (.ref b152), .val (.ref r_155), .val (.ref b156), .unset] [(.ref r_158)]))
    refine Go.step (fun _ k => XS.astore X_158.here hx rfl (hb hby at_183) rfl rfl (l' := #[.val (.int p0), .val (.int p1), .val (.long j2), .second, .val (.int p3), .val (.int p4), .val (.int p5), .val (.int (0 : Int32)), .val (.int nn), .val (.int c0), .val (.int c1), .val (.int c2), .val (.ref r_146), .val (.ref r_147), .val (.ref r_148), .val (.ref b149), .val (.ref b152), .val (.ref r_155), .val (.ref b156), .val (.ref r_158)]) rfl k) ?_
    show Go p e below _ (T_158.setTop (mkF m 185 #[.val (.int p0), .val (.int p1), .val (.long j2), .second, .val (.int p3), .val (.int p4), .val (.int p5), .val (.int (0 : Int32)), .val (.int nn), .val (.int c0), .val (.int c1), .val (.int c2), .val (.ref r_146), .val (.ref r_147), .val (.ref r_148), .val (.ref b149), .val (.ref b152), .val (.ref r_155), .val (.ref b156), .val (.ref r_158)] []))
    refine Go.step (fun _ k => XS.aload X_158.here hx rfl (hb hby at_185) rfl rfl k) ?_
    show Go p e below _ (T_158.setTop (mkF m 187 #[.val (.int p0), .val (.int p1), .val (.long j2), .second, .val (.int p3), .val (.int p4), .val (.int p5), .val (.int (0 : Int32)), .val (.int nn), .val (.int c0), .val (.int c1), .val (.int c2), .val (.ref r_146), .val (.ref r_147), .val (.ref r_148), .val (.ref b149), .val (.ref b152), .val (.ref r_155), .val (.ref b156), .val (.ref r_158)] [(.ref r_158)]))
    obtain ⟨v_160, T_160, L_160, X_160, hQ_160, st_160⟩ := goV X_158 hx hZ_154 (y := ({ cls := "com/example/stubwright/stubwright/idl/Token", name := "kind", desc := "()Lcom/example/stubwright/stubwright/idl/Token$Kind;" } : Jvm.MethodName)) (z := ({ cls := "com/example/stubwright/stubwright/idl/Token", name := "kind", desc := "()Lcom/example/stubwright/stubwright/idl/Token$Kind;" } : Jvm.MethodName)) hown_154 (wd_97 hw) (wd_98 hw) (notFace_of_selects (args := #[]) (mvT hZ_154 (wd_100 hw))) (wd_100 hw) (wd_99 hw) (by decide) (backOf (W := 0) (rm_kind l Z a0 hw zc kd0 kd1 kd2 kd3 kd4 kd5 kd6 kd7 kd8 kd9 kd10 kd11 kd12 kd13 kd14 kd15 kd16 kd17 (r_158) (r_155) T_158.heap n0 (Nat.le_trans Z0 KP_158.1) u2_158 hSt O_158) hZ_154 (wd_101 hw) (wd_75 hw) (by decide) (by decide)) rfl u1_158 (g := (mkF m 187 #[.val (.int p0), .val (.int p1), .val (.long j2), .second, .val (.int p3), .val (.int p4), .val (.int p5), .val (.int (0 : Int32)), .val (.int nn), .val (.int c0), .val (.int c1), .val (.int c2), .val (.ref r_146), .val (.ref r_147), .val (.ref r_148), .val (.ref b149), .val (.ref b152), .val (.ref r_155), .val (.ref b156), .val (.ref r_158)] [(.ref r_158)])) rfl (by rw [hml]; rfl) (argsL := []) (rest := []) rfl (lenOf pd_13 rfl) rfl (by show 2 * 0 + _ ≤ _; exact Nat.le_of_eq rfl) (hb hby at_187) (by decide) (by decide)
    obtain ⟨rfl, Nq_160, e_160⟩ := hQ_160
    have N_160 := Fr.app N_158 Nq_160
    refine Go.step st_160 ?_
    show Go p e below _ (T_160.setTop (mkF m 190 #[.val (.int p0), .val (.int p1), .val (.long j2), .second, .val (.int p3), .val (.int p4), .val (.int p5), .val (.int (0 : Int32)), .val (.int nn), .val (.int c0), .val (.int c1), .val (.int c2), .val (.ref r_146), .val (.ref r_147), .val (.ref r_148), .val (.ref b149), .val (.ref b152), .val (.ref r_155), .val (.ref b156), .val (.ref r_158)] [(.ref r_155)]))
    refine Go.step (fun _ k => XS.aload X_160.here hx rfl (hb hby at_190) rfl rfl k) ?_
    show Go p e below _ (T_160.setTop (mkF m 192 #[.val (.int p0), .val (.int p1), .val (.long j2), .second, .val (.int p3), .val (.int p4), .val (.int p5), .val (.int (0 : Int32)), .val (.int nn), .val (.int c0), .val (.int c1), .val (.int c2), .val (.ref r_146), .val (.ref r_147), .val (.ref r_148), .val (.ref b149), .val (.ref b152), .val (.ref r_155), .val (.ref b156), .val (.ref r_158)] [(.ref r_155), (.ref r_155)]))
    refine Go.step (fun _ k => Jvm.RoadKit.acmp (g := (mkF m 192 #[.val (.int p0), .val (.int p1), .val (.long j2), .second, .val (.int p3), .val (.int p4), .val (.int p5), .val (.int (0 : Int32)), .val (.int nn), .val (.int c0), .val (.int c1), .val (.int c2), .val (.ref r_146), .val (.ref r_147), .val (.ref r_148), .val (.ref b149), .val (.ref b152), .val (.ref r_155), .val (.ref b156), .val (.ref r_158)] [(.ref r_155), (.ref r_155)])) X_160 hx rfl rfl rfl (pc0 := 192) (pc' := 195) (same := true) rfl (hb hby at_192) rfl (decide_eq_true rfl) (by decide) (by decide) k) ?_
    show Go p e below _ (T_160.setTop (mkF m 195 #[.val (.int p0), .val (.int p1), .val (.long j2), .second, .val (.int p3), .val (.int p4), .val (.int p5), .val (.int (0 : Int32)), .val (.int nn), .val (.int c0), .val (.int c1), .val (.int c2), .val (.ref r_146), .val (.ref r_147), .val (.ref r_148), .val (.ref b149), .val (.ref b152), .val (.ref r_155), .val (.ref b156), .val (.ref r_158)] []))
    refine Go.step (fun _ k => XS.aload X_160.here hx rfl (hb hby at_195) rfl rfl k) ?_
    show Go p e below _ (T_160.setTop (mkF m 197 #[.val (.int p0), .val (.int p1), .val (.long j2), .second, .val (.int p3), .val (.int p4), .val (.int p5), .val (.int (0 : Int32)), .val (.int nn), .val (.int c0), .val (.int c1), .val (.int c2), .val (.ref r_146), .val (.ref r_147), .val (.ref r_148), .val (.ref b149), .val (.ref b152), .val (.ref r_155), .val (.ref b156), .val (.ref r_158)] [(.ref r_158)]))
    obtain ⟨v_161, T_161, L_161, X_161, hQ_161, st_161⟩ := goV X_160 hx hZ_154 (y := ({ cls := "com/example/stubwright/stubwright/idl/Token", name := "text", desc := "()Ljava/lang/String;" } : Jvm.MethodName)) (z := ({ cls := "com/example/stubwright/stubwright/idl/Token", name := "text", desc := "()Ljava/lang/String;" } : Jvm.MethodName)) hown_154 (wd_102 hw) (wd_103 hw) (notFace_of_selects (args := #[]) (mvT hZ_154 (wd_105 hw))) (wd_105 hw) (wd_104 hw) (by decide) (backOf (W := 0) (rm_text l Z a0 hw zc kd0 kd1 kd2 kd3 kd4 kd5 kd6 kd7 kd8 kd9 kd10 kd11 kd12 kd13 kd14 kd15 kd16 kd17 (r_158) (r_146) T_158.heap n0 (Nat.le_trans Z0 KP_158.1) u3_158 hSt O_158) hZ_154 (wd_106 hw) (wd_75 hw) (by decide) (by decide)) e_160 u1_158 (g := (mkF m 197 #[.val (.int p0), .val (.int p1), .val (.long j2), .second, .val (.int p3), .val (.int p4), .val (.int p5), .val (.int (0 : Int32)), .val (.int nn), .val (.int c0), .val (.int c1), .val (.int c2), .val (.ref r_146), .val (.ref r_147), .val (.ref r_148), .val (.ref b149), .val (.ref b152), .val (.ref r_155), .val (.ref b156), .val (.ref r_158)] [(.ref r_158)])) rfl (by rw [hml]; rfl) (argsL := []) (rest := []) rfl (lenOf pd_14 rfl) rfl (by show 2 * 0 + _ ≤ _; exact Nat.le_of_eq rfl) (hb hby at_197) (by decide) (by decide)
    obtain ⟨rfl, Nq_161, e_161⟩ := hQ_161
    have N_161 := Fr.app N_160 Nq_161
    refine Go.step st_161 ?_
    show Go p e below _ (T_161.setTop (mkF m 200 #[.val (.int p0), .val (.int p1), .val (.long j2), .second, .val (.int p3), .val (.int p4), .val (.int p5), .val (.int (0 : Int32)), .val (.int nn), .val (.int c0), .val (.int c1), .val (.int c2), .val (.ref r_146), .val (.ref r_147), .val (.ref r_148), .val (.ref b149), .val (.ref b152), .val (.ref r_155), .val (.ref b156), .val (.ref r_158)] [(.ref r_146)]))
    refine Go.step (fun _ k => XS.aload X_161.here hx rfl (hb hby at_200) rfl rfl k) ?_
    show Go p e below _ (T_161.setTop (mkF m 202 #[.val (.int p0), .val (.int p1), .val (.long j2), .second, .val (.int p3), .val (.int p4), .val (.int p5), .val (.int (0 : Int32)), .val (.int nn), .val (.int c0), .val (.int c1), .val (.int c2), .val (.ref r_146), .val (.ref r_147), .val (.ref r_148), .val (.ref b149), .val (.ref b152), .val (.ref r_155), .val (.ref b156), .val (.ref r_158)] [(.ref r_146), (.ref r_146)]))
    have f163 : Str Z T_146.heap.size T_158.heap r_146 (mkL nn c0 c1 c2) := (((((((((u1_146.keep K_147 all0).keep K_148 all0).ext E_149).keep K_151 (allS (Nat.le_trans (Nat.le_trans le_147 le_148) ge_149) all0)).ext E_152).keep K_154 (allS (Nat.le_trans (Nat.le_trans le_147 (Nat.le_trans le_148 (Nat.le_trans le_149 le_151))) ge_152) all0)).ext E_156).keep K_157 (allS (Nat.le_trans (Nat.le_trans le_147 (Nat.le_trans le_148 (Nat.le_trans le_149 (Nat.le_trans le_151 (Nat.le_trans le_152 le_154))))) ge_156) all0)).keep K_158 all0)
    obtain ⟨v_162, T_162, L_162, X_162, hQ_162, st_162⟩ := goV X_161 hx hZ_154 (y := ({ cls := "java/lang/String", name := "equals", desc := "(Ljava/lang/Object;)Z" } : Jvm.MethodName)) (z := ({ cls := "java/lang/String", name := "equals", desc := "(Ljava/lang/Object;)Z" } : Jvm.MethodName)) hown_154 (wd_107 hw) (wd_108 hw) (notFace_of_selects (args := #[]) (mvT hZ_154 (wd_110 hw))) (wd_110 hw) (wd_109 hw) (by decide) (backOf (W := 0) (rm_eqSelf l Z a0 hw zc kd0 kd1 kd2 kd3 kd4 kd5 kd6 kd7 kd8 kd9 kd10 kd11 kd12 kd13 kd14 kd15 kd16 kd17 (r_146) T_158.heap n0 (Nat.le_trans Z0 KP_158.1) hSt O_158) hZ_154 (wd_111 hw) (wd_7 hw) (by decide) (by decide)) e_161 f163.exa (g := (mkF m 202 #[.val (.int p0), .val (.int p1), .val (.long j2), .second, .val (.int p3), .val (.int p4), .val (.int p5), .val (.int (0 : Int32)), .val (.int nn), .val (.int c0), .val (.int c1), .val (.int c2), .val (.ref r_146), .val (.ref r_147), .val (.ref r_148), .val (.ref b149), .val (.ref b152), .val (.ref r_155), .val (.ref b156), .val (.ref r_158)] [(.ref r_146), (.ref r_146)])) rfl (by rw [hml]; rfl) (argsL := [(.ref r_146)]) (rest := []) rfl (lenOf pd_15 rfl) rfl (by show 2 * 0 + _ ≤ _; exact Nat.le_of_eq rfl) (hb hby at_202) (by decide) (by decide)
    obtain ⟨rfl, Nq_162, e_162⟩ := hQ_162
    have N_162 := Fr.app N_161 Nq_162
    refine Go.step st_162 ?_
    show Go p e below _ (T_162.setTop (mkF m 205 #[.val (.int p0), .val (.int p1), .val (.long j2), .second, .val (.int p3), .val (.int p4), .val (.int p5), .val (.int (0 : Int32)), .val (.int nn), .val (.int c0), .val (.int c1), .val (.int c2), .val (.ref r_146), .val (.ref r_147), .val (.ref r_148), .val (.ref b149), .val (.ref b152), .val (.ref r_155), .val (.ref b156), .val (.ref r_158)] [(.int (1 : Int32))]))
    refine Go.step (fun _ k => XS.ifNo X_162.here hx rfl (hb hby at_205) rfl ((if0 _ _).trans (feq ((by decide) : ¬ ((1 : Int32) = (0 : Int32)))).1) k) ?_
    show Go p e below _ (T_162.setTop (mkF m 208 #[.val (.int p0), .val (.int p1), .val (.long j2), .second, .val (.int p3), .val (.int p4), .val (.int p5), .val (.int (0 : Int32)), .val (.int nn), .val (.int c0), .val (.int c1), .val (.int c2), .val (.ref r_146), .val (.ref r_147), .val (.ref r_148), .val (.ref b149), .val (.ref b152), .val (.ref r_155), .val (.ref b156), .val (.ref r_158)] []))
    refine Go.step (fun _ k => XS.aload X_162.here hx rfl (hb hby at_208) rfl rfl k) ?_
    show Go p e below _ (T_162.setTop (mkF m 210 #[.val (.int p0), .val (.int p1), .val (.long j2), .second, .val (.int p3), .val (.int p4), .val (.int p5), .val (.int (0 : Int32)), .val (.int nn), .val (.int c0), .val (.int c1), .val (.int c2), .val (.ref r_146), .val (.ref r_147), .val (.ref r_148), .val (.ref b149), .val (.ref b152), .val (.ref r_155), .val (.ref b156), .val (.ref r_158)] [(.ref r_158)]))
    obtain ⟨v_164, T_164, L_164, X_164, hQ_164, st_164⟩ := goV X_162 hx hZ_154 (y := ({ cls := "com/example/stubwright/stubwright/idl/Token", name := "isEscaped", desc := "()Z" } : Jvm.MethodName)) (z := ({ cls := "com/example/stubwright/stubwright/idl/Token", name := "isEscaped", desc := "()Z" } : Jvm.MethodName)) hown_154 (wd_112 hw) (wd_113 hw) (notFace_of_selects (args := #[]) (mvT hZ_154 (wd_115 hw))) (wd_115 hw) (wd_114 hw) (by decide) (backOf (W := 0) (rm_isEsc l Z a0 hw zc kd0 kd1 kd2 kd3 kd4 kd5 kd6 kd7 kd8 kd9 kd10 kd11 kd12 kd13 kd14 kd15 kd16 kd17 (r_158) ((0 : Int32)) T_158.heap n0 (Nat.le_trans Z0 KP_158.1) u5_158 (by decide) hSt O_158) hZ_154 (wd_116 hw) (wd_75 hw) (by decide) (by decide)) e_162 u1_158 (g := (mkF m 210 #[.val (.int p0), .val (.int p1), .val (.long j2), .second, .val (.int p3), .val (.int p4), .val (.int p5), .val (.int (0 : Int32)), .val (.int nn), .val (.int c0), .val (.int c1), .val (.int c2), .val (.ref r_146), .val (.ref r_147), .val (.ref r_148), .val (.ref b149), .val (.ref b152), .val (.ref r_155), .val (.ref b156), .val (.ref r_158)] [(.ref r_158)])) rfl (by rw [hml]; rfl) (argsL := []) (rest := []) rfl (lenOf pd_16 rfl) rfl (by show 2 * 0 + _ ≤ _; exact Nat.le_of_eq rfl) (hb hby at_210) (by decide) (by decide)
    obtain ⟨rfl, Nq_164, e_164⟩ := hQ_164
    have N_164 := Fr.app N_162 Nq_164
    refine Go.step st_164 ?_
    show Go p e below _ (T_164.setTop (mkF m 213 #[.val (.int p0), .val (.int p1), .val (.long j2), .second, .val (.int p3), .val (.int p4), .val (.int p5), .val (.int (0 : Int32)), .val (.int nn), .val (.int c0), .val (.int c1), .val (.int c2), .val (.ref r_146), .val (.ref r_147), .val (.ref r_148), .val (.ref b149), .val (.ref b152), .val (.ref r_155), .val (.ref b156), .val (.ref r_158)] [(.int (0 : Int32))]))
    refine Go.step (fun _ k => XS.iload X_164.here hx rfl (hb hby at_213) rfl  k) ?_
    show Go p e below _ (T_164.setTop (mkF m 215 #[.val (.int p0), .val (.int p1), .val (.long j2), .second, .val (.int p3), .val (.int p4), .val (.int p5), .val (.int (0 : Int32)), .val (.int nn), .val (.int c0), .val (.int c1), .val (.int c2), .val (.ref r_146), .val (.ref r_147), .val (.ref r_148), .val (.ref b149), .val (.ref b152), .val (.ref r_155), .val (.ref b156), .val (.ref r_158)] [(.int (0 : Int32)), (.int (0 : Int32))]))
    refine Go.step (fun _ k => XS.icmpNo X_164.here hx rfl (hb hby at_215) rfl (teq ((by decide) : (0 : Int32) = (0 : Int32))).2 k) ?_
    show Go p e below _ (T_164.setTop (mkF m 218 #[.val (.int p0), .val (.int p1), .val (.long j2), .second, .val (.int p3), .val (.int p4), .val (.int p5), .val (.int (0 : Int32)), .val (.int nn), .val (.int c0), .val (.int c1), .val (.int c2), .val (.ref r_146), .val (.ref r_147), .val (.ref r_148), .val (.ref b149), .val (.ref b152), .val (.ref r_155), .val (.ref b156), .val (.ref r_158)] []))
    refine Go.step (fun _ k => XS.aload X_164.here hx rfl (hb hby at_218) rfl rfl k) ?_
    show Go p e below _ (T_164.setTop (mkF m 220 #[.val (.int p0), .val (.int p1), .val (.long j2), .second, .val (.int p3), .val (.int p4), .val (.int p5), .val (.int (0 : Int32)), .val (.int nn), .val (.int c0), .val (.int c1), .val (.int c2), .val (.ref r_146), .val (.ref r_147), .val (.ref r_148), .val (.ref b149), .val (.ref b152), .val (.ref r_155), .val (.ref b156), .val (.ref r_158)] [(.ref r_158)]))
    obtain ⟨v_165, T_165, L_165, X_165, hQ_165, st_165⟩ := goV X_164 hx hZ_154 (y := ({ cls := "com/example/stubwright/stubwright/idl/Token", name := "position", desc := "()Lcom/example/stubwright/stubwright/SourcePosition;" } : Jvm.MethodName)) (z := ({ cls := "com/example/stubwright/stubwright/idl/Token", name := "position", desc := "()Lcom/example/stubwright/stubwright/SourcePosition;" } : Jvm.MethodName)) hown_154 (wd_117 hw) (wd_118 hw) (notFace_of_selects (args := #[]) (mvT hZ_154 (wd_120 hw))) (wd_120 hw) (wd_119 hw) (by decide) (backOf (W := 0) (rm_position l Z a0 hw zc kd0 kd1 kd2 kd3 kd4 kd5 kd6 kd7 kd8 kd9 kd10 kd11 kd12 kd13 kd14 kd15 kd16 kd17 (r_158) (b152) T_158.heap n0 (Nat.le_trans Z0 KP_158.1) u4_158 hSt O_158) hZ_154 (wd_121 hw) (wd_75 hw) (by decide) (by decide)) e_164 u1_158 (g := (mkF m 220 #[.val (.int p0), .val (.int p1), .val (.long j2), .second, .val (.int p3), .val (.int p4), .val (.int p5), .val (.int (0 : Int32)), .val (.int nn), .val (.int c0), .val (.int c1), .val (.int c2), .val (.ref r_146), .val (.ref r_147), .val (.ref r_148), .val (.ref b149), .val (.ref b152), .val (.ref r_155), .val (.ref b156), .val (.ref r_158)] [(.ref r_158)])) rfl (by rw [hml]; rfl) (argsL := []) (rest := []) rfl (lenOf pd_17 rfl) rfl (by show 2 * 0 + _ ≤ _; exact Nat.le_of_eq rfl) (hb hby at_220) (by decide) (by decide)
    obtain ⟨rfl, Nq_165, e_165⟩ := hQ_165
    have N_165 := Fr.app N_164 Nq_165
    refine Go.step st_165 ?_
    show Go p e below _ (T_165.setTop (mkF m 223 #[.val (.int p0), .val (.int p1), .val (.long j2), .second, .val (.int p3), .val (.int p4), .val (.int p5), .val (.int (0 : Int32)), .val (.int nn), .val (.int c0), .val (.int c1), .val (.int c2), .val (.ref r_146), .val (.ref r_147), .val (.ref r_148), .val (.ref b149), .val (.ref b152), .val (.ref r_155), .val (.ref b156), .val (.ref r_158)] [(.ref b152)]))
    refine Go.step (fun _ k => XS.aload X_165.here hx rfl (hb hby at_223) rfl rfl k) ?_
    show Go p e below _ (T_165.setTop (mkF m 225 #[.val (.int p0), .val (.int p1), .val (.long j2), .second, .val (.int p3), .val (.int p4), .val (.int p5), .val (.int (0 : Int32)), .val (.int nn), .val (.int c0), .val (.int c1), .val (.int c2), .val (.ref r_146), .val (.ref r_147), .val (.ref r_148), .val (.ref b149), .val (.ref b152), .val (.ref r_155), .val (.ref b156), .val (.ref r_158)] [(.ref b152), (.ref b152)]))
    refine Go.step (fun _ k => Jvm.RoadKit.acmp (g := (mkF m 225 #[.val (.int p0), .val (.int p1), .val (.long j2), .second, .val (.int p3), .val (.int p4), .val (.int p5), .val (.int (0 : Int32)), .val (.int nn), .val (.int c0), .val (.int c1), .val (.int c2), .val (.ref r_146), .val (.ref r_147), .val (.ref r_148), .val (.ref b149), .val (.ref b152), .val (.ref r_155), .val (.ref b156), .val (.ref r_158)] [(.ref b152), (.ref b152)])) X_165 hx rfl rfl rfl (pc0 := 225) (pc' := 228) (same := true) rfl (hb hby at_225) rfl (decide_eq_true rfl) (by decide) (by decide) k) ?_
    show Go p e below _ (T_165.setTop (mkF m 228 #[.val (.int p0), .val (.int p1), .val (.long j2), .second, .val (.int p3), .val (.int p4), .val (.int p5), .val (.int (0 : Int32)), .val (.int nn), .val (.int c0), .val (.int c1), .val (.int c2), .val (.ref r_146), .val (.ref r_147), .val (.ref r_148), .val (.ref b149), .val (.ref b152), .val (.ref r_155), .val (.ref b156), .val (.ref r_158)] []))
    refine Go.step (fun _ k => XS.aload X_165.here hx rfl (hb hby at_228) rfl rfl k) ?_
    show Go p e below _ (T_165.setTop (mkF m 230 #[.val (.int p0), .val (.int p1), .val (.long j2), .second, .val (.int p3), .val (.int p4), .val (.int p5), .val (.int (0 : Int32)), .val (.int nn), .val (.int c0), .val (.int c1), .val (.int c2), .val (.ref r_146), .val (.ref r_147), .val (.ref r_148), .val (.ref b149), .val (.ref b152), .val (.ref r_155), .val (.ref b156), .val (.ref r_158)] [(.ref b156)]))
    have f166 : Fld Z T_158.heap b156 "com/example/stubwright/stubwright/idl/Token" "position" "Lcom/example/stubwright/stubwright/SourcePosition;" (.ref b149) := (u2_157.keep K_158 nin0)
    have f168 : Exa Z T_158.heap b156 "com/example/stubwright/stubwright/idl/Token" := (f159.keep K_158)
    obtain ⟨v_167, T_167, L_167, X_167, hQ_167, st_167⟩ := goV X_165 hx hZ_154 (y := ({ cls := "com/example/stubwright/stubwright/idl/Token", name := "position", desc := "()Lcom/example/stubwright/stubwright/SourcePosition;" } : Jvm.MethodName)) (z := ({ cls := "com/example/stubwright/stubwright/idl/Token", name := "position", desc := "()Lcom/example/stubwright/stubwright/SourcePosition;" } : Jvm.MethodName)) hown_154 (wd_117 hw) (wd_118 hw) (notFace_of_selects (args := #[]) (mvT hZ_154 (wd_120 hw))) (wd_120 hw) (wd_119 hw) (by decide) (backOf (W := 0) (rm_position l Z a0 hw zc kd0 kd1 kd2 kd3 kd4 kd5 kd6 kd7 kd8 kd9 kd10 kd11 kd12 kd13 kd14 kd15 kd16 kd17 (b156) (b149) T_158.heap n0 (Nat.le_trans Z0 KP_158.1) f166 hSt O_158) hZ_154 (wd_121 hw) (wd_75 hw) (by decide) (by decide)) e_165 f168 (g := (mkF m 230 #[.val (.int p0), .val (.int p1), .val (.long j2), .second, .val (.int p3), .val (.int p4), .val (.int p5), .val (.int (0 : Int32)), .val (.int nn), .val (.int c0), .val (.int c1), .val (.int c2), .val (.ref r_146), .val (.ref r_147), .val (.ref r_148), .val (.ref b149), .val (.ref b152), .val (.ref r_155), .val (.ref b156), .val (.ref r_158)] [(.ref b156)])) rfl (by rw [hml]; rfl) (argsL := []) (rest := []) rfl (lenOf pd_17 rfl) rfl (by show 2 * 0 + _ ≤ _; exact Nat.le_of_eq rfl) (hb hby at_230) (by decide) (by decide)
    obtain ⟨rfl, Nq_167, e_167⟩ := hQ_167
    have N_167 := Fr.app N_165 Nq_167
    refine Go.step st_167 ?_
    show Go p e below _ (T_167.setTop (mkF m 233 #[.val (.int p0), .val (.int p1), .val (.long j2), .second, .val (.int p3), .val (.int p4), .val (.int p5), .val (.int (0 : Int32)), .val (.int nn), .val (.int c0), .val (.int c1), .val (.int c2), .val (.ref r_146), .val (.ref r_147), .val (.ref r_148), .val (.ref b149), .val (.ref b152), .val (.ref r_155), .val (.ref b156), .val (.ref r_158)] [(.ref b149)]))
    refine Go.step (fun _ k => XS.aload X_167.here hx rfl (hb hby at_233) rfl rfl k) ?_
    show Go p e below _ (T_167.setTop (mkF m 235 #[.val (.int p0), .val (.int p1), .val (.long j2), .second, .val (.int p3), .val (.int p4), .val (.int p5), .val (.int (0 : Int32)), .val (.int nn), .val (.int c0), .val (.int c1), .val (.int c2), .val (.ref r_146), .val (.ref r_147), .val (.ref r_148), .val (.ref b149), .val (.ref b152), .val (.ref r_155), .val (.ref b156), .val (.ref r_158)] [(.ref b149), (.ref b149)]))
    refine Go.step (fun _ k => Jvm.RoadKit.acmp (g := (mkF m 235 #[.val (.int p0), .val (.int p1), .val (.long j2), .second, .val (.int p3), .val (.int p4), .val (.int p5), .val (.int (0 : Int32)), .val (.int nn), .val (.int c0), .val (.int c1), .val (.int c2), .val (.ref r_146), .val (.ref r_147), .val (.ref r_148), .val (.ref b149), .val (.ref b152), .val (.ref r_155), .val (.ref b156), .val (.ref r_158)] [(.ref b149), (.ref b149)])) X_167 hx rfl rfl rfl (pc0 := 235) (pc' := 238) (same := true) rfl (hb hby at_235) rfl (decide_eq_true rfl) (by decide) (by decide) k) ?_
    show Go p e below _ (T_167.setTop (mkF m 238 #[.val (.int p0), .val (.int p1), .val (.long j2), .second, .val (.int p3), .val (.int p4), .val (.int p5), .val (.int (0 : Int32)), .val (.int nn), .val (.int c0), .val (.int c1), .val (.int c2), .val (.ref r_146), .val (.ref r_147), .val (.ref r_148), .val (.ref b149), .val (.ref b152), .val (.ref r_155), .val (.ref b156), .val (.ref r_158)] []))
    refine Go.step (fun _ k => XS.iconst X_167.here hx rfl (hb hby at_238) k) ?_
    show Go p e below _ (T_167.setTop (mkF m 239 #[.val (.int p0), .val (.int p1), .val (.long j2), .second, .val (.int p3), .val (.int p4), .val (.int p5), .val (.int (0 : Int32)), .val (.int nn), .val (.int c0), .val (.int c1), .val (.int c2), .val (.ref r_146), .val (.ref r_147), .val (.ref r_148), .val (.ref b149), .val (.ref b152), .val (.ref r_155), .val (.ref b156), .val (.ref r_158)] [(.int (1 : Int32))]))
    refine Go.step (fun _ k => XS.goto X_167.here hx rfl (pc0 := 239) (pc' := 243) rfl (hb hby at_239) (by decide) (by decide) k) ?_
    show Go p e below _ (T_167.setTop (mkF m 243 #[.val (.int p0), .val (.int p1), .val (.long j2), .second, .val (.int p3), .val (.int p4), .val (.int p5), .val (.int (0 : Int32)), .val (.int nn), .val (.int c0), .val (.int c1), .val (.int c2), .val (.ref r_146), .val (.ref r_147), .val (.ref r_148), .val (.ref b149), .val (.ref b152), .val (.ref r_155), .val (.ref b156), .val (.ref r_158)] [(.int (1 : Int32))]))
    exact Go.retVW X_167 e_167 hS_154 (Nat.le_trans (Nat.le_refl _) (Nat.le_trans le_156 (Nat.le_trans le_157 le_158))) hZ_154 hEL hh0 CR_158 hx hlk hret rfl (Or.inl ⟨rfl, Or.inr (Or.inl rfl), _, rfl⟩) (hb hby at_243) (by decide) (by decide) (by rw [e_167]; exact ⟨rfl, N_167⟩)
  · skip
    refine Go.step (fun _ k => XS.ifNo X0.here hx rfl (hb hby at_3) rfl ((if0 _ _).trans (feq hesc).1) k) ?_
    show Go p e below _ (s₁.setTop (mkF m 6 #[.val (.int p0), .val (.int p1), .val (.long j2), .second, .val (.int p3), .val (.int p4), .val (.int p5), .unset, .unset, .unset, .unset, .unset, .unset, .unset, .unset, .unset, .unset, .unset, .unset, .unset] []))
    refine Go.step (fun _ k => XS.iconst X0.here hx rfl (hb hby at_6) k) ?_
    show Go p e below _ (s₁.setTop (mkF m 7 #[.val (.int p0), .val (.int p1), .val (.long j2), .second, .val (.int p3), .val (.int p4), .val (.int p5), .unset, .unset, .unset, .unset, .unset, .unset, .unset, .unset, .unset, .unset, .unset, .unset, .unset] [(.int (1 : Int32))]))
    refine Go.step (fun _ k => XS.goto X0.here hx rfl (pc0 := 7) (pc' := 11) rfl (hb hby at_7) (by decide) (by decide) k) ?_
    show Go p e below _ (s₁.setTop (mkF m 11 #[.val (.int p0), .val (.int p1), .val (.long j2), .second, .val (.int p3), .val (.int p4), .val (.int p5), .unset, .unset, .unset, .unset, .unset, .unset, .unset, .unset, .unset, .unset, .unset, .unset, .unset] [(.int (1 : Int32))]))
    refine Go.step (fun _ k => XS.istore X0.here hx rfl (hb hby at_11) rfl (l' := #[.val (.int p0), .val (.int p1), .val (.long j2), .second, .val (.int p3), .val (.int p4), .val (.int p5), .val (.int (1 : Int32)), .unset, .unset, .unset, .unset, .unset, .unset, .unset, .unset, .unset, .unset, .unset, .unset]) rfl k) ?_
    show Go p e below _ (s₁.setTop (mkF m 13 #[.val (.int p0), .val (.int p1), .val (.long j2), .second, .val (.int p3), .val (.int p4), .val (.int p5), .val (.int (1 : Int32)), .unset, .unset, .unset, .unset, .unset, .unset, .unset, .unset, .unset, .unset, .unset, .unset] []))
    refine Go.step (fun _ k => XS.iloadN X0.here hx rfl (hb hby at_13) rfl  k) ?_
    show Go p e below _ (s₁.setTop (mkF m 14 #[.val (.int p0), .val (.int p1), .val (.long j2), .second, .val (.int p3), .val (.int p4), .val (.int p5), .val (.int (1 : Int32)), .unset, .unset, .unset, .unset, .unset, .unset, .unset, .unset, .unset, .unset, .unset, .unset] [(.int p1)]))
    refine Go.step (fun _ k => XS.iconst X0.here hx rfl (hb hby at_14) k) ?_
    show Go p e below _ (s₁.setTop (mkF m 15 #[.val (.int p0), .val (.int p1), .val (.long j2), .second, .val (.int p3), .val (.int p4), .val (.int p5), .val (.int (1 : Int32)), .unset, .unset, .unset, .unset, .unset, .unset, .unset, .unset, .unset, .unset, .unset, .unset] [(.int (1 : Int32)), (.int p1)]))
    refine Go.step (fun _ k => XS.iushr X0.here hx rfl (hb hby at_15) rfl k) ?_
    show Go p e below _ (s₁.setTop (mkF m 16 #[.val (.int p0), .val (.int p1), .val (.long j2), .second, .val (.int p3), .val (.int p4), .val (.int p5), .val (.int (1 : Int32)), .unset, .unset, .unset, .unset, .unset, .unset, .unset, .unset, .unset, .unset, .unset, .unset] [(.int ((p1.toUInt32 >>> ((1 : Int32) &&& 31).toUInt32).toInt32))]))
    refine Go.step (fun _ k => XS.iconst X0.here hx rfl (hb hby at_16) k) ?_
    show Go p e below _ (s₁.setTop (mkF m 17 #[.val (.int p0), .val (.int p1), .val (.long j2), .second, .val (.int p3), .val (.int p4), .val (.int p5), .val (.int (1 : Int32)), .unset, .unset, .unset, .unset, .unset, .unset, .unset, .unset, .unset, .unset, .unset, .unset] [(.int (3 : Int32)), (.int ((p1.toUInt32 >>> ((1 : Int32) &&& 31).toUInt32).toInt32))]))
    refine Go.step (fun _ k => XS.iand X0.here hx rfl (hb hby at_17) rfl k) ?_
    show Go p e below _ (s₁.setTop (mkF m 18 #[.val (.int p0), .val (.int p1), .val (.long j2), .second, .val (.int p3), .val (.int p4), .val (.int p5), .val (.int (1 : Int32)), .unset, .unset, .unset, .unset, .unset, .unset, .unset, .unset, .unset, .unset, .unset, .unset] [(.int (((p1.toUInt32 >>> ((1 : Int32) &&& 31).toUInt32).toInt32) &&& (3 : Int32)))]))
    refine Go.step (fun _ k => XS.istore X0.here hx rfl (hb hby at_18) rfl (l' := #[.val (.int p0), .val (.int p1), .val (.long j2), .second, .val (.int p3), .val (.int p4), .val (.int p5), .val (.int (1 : Int32)), .val (.int (((p1.toUInt32 >>> ((1 : Int32) &&& 31).toUInt32).toInt32) &&& (3 : Int32))), .unset, .unset, .unset, .unset, .unset, .unset, .unset, .unset, .unset, .unset, .unset]) rfl k) ?_
    show Go p e below _ (s₁.setTop (mkF m 20 #[.val (.int p0), .val (.int p1), .val (.long j2), .second, .val (.int p3), .val (.int p4), .val (.int p5), .val (.int (1 : Int32)), .val (.int (((p1.toUInt32 >>> ((1 : Int32) &&& 31).toUInt32).toInt32) &&& (3 : Int32))), .unset, .unset, .unset, .unset, .unset, .unset, .unset, .unset, .unset, .unset, .unset] []))
    obtain ⟨nn, h_nn⟩ : ∃ z, z = (((p1.toUInt32 >>> ((1 : Int32) &&& 31).toUInt32).toInt32) &&& (3 : Int32)) := ⟨_, rfl⟩
    rw [← h_nn]
    show Go p e below _ (s₁.setTop (mkF m 20 #[.val (.int p0), .val (.int p1), .val (.long j2), .second, .val (.int p3), .val (.int p4), .val (.int p5), .val (.int (1 : Int32)), .val (.int nn), .unset, .unset, .unset, .unset, .unset, .unset, .unset, .unset, .unset, .unset, .unset] []))
    refine Go.step (fun _ k => XS.lloadN X0.here hx rfl (hb hby at_20) rfl  k) ?_
    show Go p e below _ (s₁.setTop (mkF m 21 #[.val (.int p0), .val (.int p1), .val (.long j2), .second, .val (.int p3), .val (.int p4), .val (.int p5), .val (.int (1 : Int32)), .val (.int nn), .unset, .unset, .unset, .unset, .unset, .unset, .unset, .unset, .unset, .unset, .unset] [(.long j2)]))
    refine Go.step (fun _ k => X0.ldc2Long hx hown (mvT hZ (wd_0 hw)) (g := (mkF m 21 #[.val (.int p0), .val (.int p1), .val (.long j2), .second, .val (.int p3), .val (.int p4), .val (.int p5), .val (.int (1 : Int32)), .val (.int nn), .unset, .unset, .unset, .unset, .unset, .unset, .unset, .unset, .unset, .unset, .unset] [(.long j2)])) rfl (hb hby at_21) _ k) ?_
    show Go p e below _ (s₁.setTop (mkF m 24 #[.val (.int p0), .val (.int p1), .val (.long j2), .second, .val (.int p3), .val (.int p4), .val (.int p5), .val (.int (1 : Int32)), .val (.int nn), .unset, .unset, .unset, .unset, .unset, .unset, .unset, .unset, .unset, .unset, .unset] [(.long (255 : Int64)), (.long j2)]))
    refine Go.step (fun _ k => XS.land X0.here hx rfl (hb hby at_24) rfl k) ?_
    show Go p e below _ (s₁.setTop (mkF m 25 #[.val (.int p0), .val (.int p1), .val (.long j2), .second, .val (.int p3), .val (.int p4), .val (.int p5), .val (.int (1 : Int32)), .val (.int nn), .unset, .unset, .unset, .unset, .unset, .unset, .unset, .unset, .unset, .unset, .unset] [(.long (j2 &&& (255 : Int64)))]))
    refine Go.step (fun _ k => XS.l2i X0.here hx rfl (hb hby at_25) rfl k) ?_
    show Go p e below _ (s₁.setTop (mkF m 26 #[.val (.int p0), .val (.int p1), .val (.long j2), .second, .val (.int p3), .val (.int p4), .val (.int p5), .val (.int (1 : Int32)), .val (.int nn), .unset, .unset, .unset, .unset, .unset, .unset, .unset, .unset, .unset, .unset, .unset] [(.int (j2 &&& (255 : Int64)).toInt32)]))
    refine Go.step (fun _ k => XS.i2c X0.here hx rfl (hb hby at_26) rfl k) ?_
    show Go p e below _ (s₁.setTop (mkF m 27 #[.val (.int p0), .val (.int p1), .val (.long j2), .second, .val (.int p3), .val (.int p4), .val (.int p5), .val (.int (1 : Int32)), .val (.int nn), .unset, .unset, .unset, .unset, .unset, .unset, .unset, .unset, .unset, .unset, .unset] [(.int (nar .char (j2 &&& (255 : Int64)).toInt32))]))
    refine own_top (congrArg Value.int (show (nar .char (j2 &&& (255 : Int64)).toInt32) = (j2 &&& (255 : Int64)).toInt32 from narL _)) ?_
    show Go p e below _ (s₁.setTop (mkF m 27 #[.val (.int p0), .val (.int p1), .val (.long j2), .second, .val (.int p3), .val (.int p4), .val (.int p5), .val (.int (1 : Int32)), .val (.int nn), .unset, .unset, .unset, .unset, .unset, .unset, .unset, .unset, .unset, .unset, .unset] [(.int (j2 &&& (255 : Int64)).toInt32)]))
    refine Go.step (fun _ k => XS.istore X0.here hx rfl (hb hby at_27) rfl (l' := #[.val (.int p0), .val (.int p1), .val (.long j2), .second, .val (.int p3), .val (.int p4), .val (.int p5), .val (.int (1 : Int32)), .val (.int nn), .val (.int (j2 &&& (255 : Int64)).toInt32), .unset, .unset, .unset, .unset, .unset, .unset, .unset, .unset, .unset, .unset]) rfl k) ?_
    show Go p e below _ (s₁.setTop (mkF m 29 #[.val (.int p0), .val (.int p1), .val (.long j2), .second, .val (.int p3), .val (.int p4), .val (.int p5), .val (.int (1 : Int32)), .val (.int nn), .val (.int (j2 &&& (255 : Int64)).toInt32), .unset, .unset, .unset, .unset, .unset, .unset, .unset, .unset, .unset, .unset] []))
    obtain ⟨c0, h_c0⟩ : ∃ z, z = (j2 &&& (255 : Int64)).toInt32 := ⟨_, rfl⟩
    rw [← h_c0]
    show Go p e below _ (s₁.setTop (mkF m 29 #[.val (.int p0), .val (.int p1), .val (.long j2), .second, .val (.int p3), .val (.int p4), .val (.int p5), .val (.int (1 : Int32)), .val (.int nn), .val (.int c0), .unset, .unset, .unset, .unset, .unset, .unset, .unset, .unset, .unset, .unset] []))
    have l_c0 : ¬ c0 < 0 ∧ ¬ (255 : Int32) < c0 := by rw [h_c0]; exact latL _
    show Go p e below _ (s₁.setTop (mkF m 29 #[.val (.int p0), .val (.int p1), .val (.long j2), .second, .val (.int p3), .val (.int p4), .val (.int p5), .val (.int (1 : Int32)), .val (.int nn), .val (.int c0), .unset, .unset, .unset, .unset, .unset, .unset, .unset, .unset, .unset, .unset] []))
    refine Go.step (fun _ k => XS.lloadN X0.here hx rfl (hb hby at_29) rfl  k) ?_
    show Go p e below _ (s₁.setTop (mkF m 30 #[.val (.int p0), .val (.int p1), .val (.long j2), .second, .val (.int p3), .val (.int p4), .val (.int p5), .val (.int (1 : Int32)), .val (.int nn), .val (.int c0), .unset, .unset, .unset, .unset, .unset, .unset, .unset, .unset, .unset, .unset] [(.long j2)]))
    refine Go.step (fun _ k => XS.bipush X0.here hx rfl (hb hby at_30) k) ?_
    show Go p e below _ (s₁.setTop (mkF m 32 #[.val (.int p0), .val (.int p1), .val (.long j2), .second, .val (.int p3), .val (.int p4), .val (.int p5), .val (.int (1 : Int32)), .val (.int nn), .val (.int c0), .unset, .unset, .unset, .unset, .unset, .unset, .unset, .unset, .unset, .unset] [(.int (8 : Int32)), (.long j2)]))
    refine Go.step (fun _ k => XS.lushr X0.here hx rfl (hb hby at_32) rfl k) ?_
    show Go p e below _ (s₁.setTop (mkF m 33 #[.val (.int p0), .val (.int p1), .val (.long j2), .second, .val (.int p3), .val (.int p4), .val (.int p5), .val (.int (1 : Int32)), .val (.int nn), .val (.int c0), .unset, .unset, .unset, .unset, .unset, .unset, .unset, .unset, .unset, .unset] [(.long ((j2.toUInt64 >>> ((8 : Int32) &&& 0x3f).toInt64.toUInt64).toInt64))]))
    refine Go.step (fun _ k => X0.ldc2Long hx hown (mvT hZ (wd_0 hw)) (g := (mkF m 33 #[.val (.int p0), .val (.int p1), .val (.long j2), .second, .val (.int p3), .val (.int p4), .val (.int p5), .val (.int (1 : Int32)), .val (.int nn), .val (.int c0), .unset, .unset, .unset, .unset, .unset, .unset, .unset, .unset, .unset, .unset] [(.long ((j2.toUInt64 >>> ((8 : Int32) &&& 0x3f).toInt64.toUInt64).toInt64))])) rfl (hb hby at_33) _ k) ?_
    show Go p e below _ (s₁.setTop (mkF m 36 #[.val (.int p0), .val (.int p1), .val (.long j2), .second, .val (.int p3), .val (.int p4), .val (.int p5), .val (.int (1 : Int32)), .val (.int nn), .val (.int c0), .unset, .unset, .unset, .unset, .unset, .unset, .unset, .unset, .unset, .unset] [(.long (255 : Int64)), (.long ((j2.toUInt64 >>> ((8 : Int32) &&& 0x3f).toInt64.toUInt64).toInt64))]))
    refine Go.step (fun _ k => XS.land X0.here hx rfl (hb hby at_36) rfl k) ?_
    show Go p e below _ (s₁.setTop (mkF m 37 #[.val (.int p0), .val (.int p1), .val (.long j2), .second, .val (.int p3), .val (.int p4), .val (.int p5), .val (.int (1 : Int32)), .val (.int nn), .val (.int c0), .unset, .unset, .unset, .unset, .unset, .unset, .unset, .unset, .unset, .unset] [(.long (((j2.toUInt64 >>> ((8 : Int32) &&& 0x3f).toInt64.toUInt64).toInt64) &&& (255 : Int64)))]))
    refine Go.step (fun _ k => XS.l2i X0.here hx rfl (hb hby at_37) rfl k) ?_
    show Go p e below _ (s₁.setTop (mkF m 38 #[.val (.int p0), .val (.int p1), .val (.long j2), .second, .val (.int p3), .val (.int p4), .val (.int p5), .val (.int (1 : Int32)), .val (.int nn), .val (.int c0), .unset, .unset, .unset, .unset, .unset, .unset, .unset, .unset, .unset, .unset] [(.int (((j2.toUInt64 >>> ((8 : Int32) &&& 0x3f).toInt64.toUInt64).toInt64) &&& (255 : Int64)).toInt32)]))
    refine Go.step (fun _ k => XS.i2c X0.here hx rfl (hb hby at_38) rfl k) ?_
    show Go p e below _ (s₁.setTop (mkF m 39 #[.val (.int p0), .val (.int p1), .val (.long j2), .second, .val (.int p3), .val (.int p4), .val (.int p5), .val (.int (1 : Int32)), .val (.int nn), .val (.int c0), .unset, .unset, .unset, .unset, .unset, .unset, .unset, .unset, .unset, .unset] [(.int (nar .char (((j2.toUInt64 >>> ((8 : Int32) &&& 0x3f).toInt64.toUInt64).toInt64) &&& (255 : Int64)).toInt32))]))
    refine own_top (congrArg Value.int (show (nar .char (((j2.toUInt64 >>> ((8 : Int32) &&& 0x3f).toInt64.toUInt64).toInt64) &&& (255 : Int64)).toInt32) = (((j2.toUInt64 >>> ((8 : Int32) &&& 0x3f).toInt64.toUInt64).toInt64) &&& (255 : Int64)).toInt32 from narL _)) ?_
    show Go p e below _ (s₁.setTop (mkF m 39 #[.val (.int p0), .val (.int p1), .val (.long j2), .second, .val (.int p3), .val (.int p4), .val (.int p5), .val (.int (1 : Int32)), .val (.int nn), .val (.int c0), .unset, .unset, .unset, .unset, .unset, .unset, .unset, .unset, .unset, .unset] [(.int (((j2.toUInt64 >>> ((8 : Int32) &&& 0x3f).toInt64.toUInt64).toInt64) &&& (255 : Int64)).toInt32)]))
    refine Go.step (fun _ k => XS.istore X0.here hx rfl (hb hby at_39) rfl (l' := #[.val (.int p0), .val (.int p1), .val (.long j2), .second, .val (.int p3), .val (.int p4), .val (.int p5), .val (.int (1 : Int32)), .val (.int nn), .val (.int c0), .val (.int (((j2.toUInt64 >>> ((8 : Int32) &&& 0x3f).toInt64.toUInt64).toInt64) &&& (255 : Int64)).toInt32), .unset, .unset, .unset, .unset, .unset, .unset, .unset, .unset, .unset]) rfl k) ?_
    show Go p e below _ (s₁.setTop (mkF m 41 #[.val (.int p0), .val (.int p1), .val (.long j2), .second, .val (.int p3), .val (.int p4), .val (.int p5), .val (.int (1 : Int32)), .val (.int nn), .val (.int c0), .val (.int (((j2.toUInt64 >>> ((8 : Int32) &&& 0x3f).toInt64.toUInt64).toInt64) &&& (255 : Int64)).toInt32), .unset, .unset, .unset, .unset, .unset, .unset, .unset, .unset, .unset] []))
    obtain ⟨c1, h_c1⟩ : ∃ z, z = (((j2.toUInt64 >>> ((8 : Int32) &&& 0x3f).toInt64.toUInt64).toInt64) &&& (255 : Int64)).toInt32 := ⟨_, rfl⟩
    rw [← h_c1]
    show Go p e below _ (s₁.setTop (mkF m 41 #[.val (.int p0), .val (.int p1), .val (.long j2), .second, .val (.int p3), .val (.int p4), .val (.int p5), .val (.int (1 : Int32)), .val (.int nn), .val (.int c0), .val (.int c1), .unset, .unset, .unset, .unset, .unset, .unset, .unset, .unset, .unset] []))
    have l_c1 : ¬ c1 < 0 ∧ ¬ (255 : Int32) < c1 := by rw [h_c1]; exact latL _
    show Go p e below _ (s₁.setTop (mkF m 41 #[.val (.int p0), .val (.int p1), .val (.long j2), .second, .val (.int p3), .val (.int p4), .val (.int p5), .val (.int (1 : Int32)), .val (.int nn), .val (.int c0), .val (.int c1), .unset, .unset, .unset, .unset, .unset, .unset, .unset, .unset, .unset] []))
    refine Go.step (fun _ k => XS.lloadN X0.here hx rfl (hb hby at_41) rfl  k) ?_
    show Go p e below _ (s₁.setTop (mkF m 42 #[.val (.int p0), .val (.int p1), .val (.long j2), .second, .val (.int p3), .val (.int p4), .val (.int p5), .val (.int (1 : Int32)), .val (.int nn), .val (.int c0), .val (.int c1), .unset, .unset, .unset, .unset, .unset, .unset, .unset, .unset, .unset] [(.long j2)]))
    refine Go.step (fun _ k => XS.bipush X0.here hx rfl (hb hby at_42) k) ?_
    show Go p e below _ (s₁.setTop (mkF m 44 #[.val (.int p0), .val (.int p1), .val (.long j2), .second, .val (.int p3), .val (.int p4), .val (.int p5), .val (.int (1 : Int32)), .val (.int nn), .val (.int c0), .val (.int c1), .unset, .unset, .unset, .unset, .unset, .unset, .unset, .unset, .unset] [(.int (16 : Int32)), (.long j2)]))
    refine Go.step (fun _ k => XS.lushr X0.here hx rfl (hb hby at_44) rfl k) ?_
    show Go p e below _ (s₁.setTop (mkF m 45 #[.val (.int p0), .val (.int p1), .val (.long j2), .second, .val (.int p3), .val (.int p4), .val (.int p5), .val (.int (1 : Int32)), .val (.int nn), .val (.int c0), .val (.int c1), .unset, .unset, .unset, .unset, .unset, .unset, .unset, .unset, .unset] [(.long ((j2.toUInt64 >>> ((16 : Int32) &&& 0x3f).toInt64.toUInt64).toInt64))]))
    refine Go.step (fun _ k => X0.ldc2Long hx hown (mvT hZ (wd_0 hw)) (g := (mkF m 45 #[.val (.int p0), .val (.int p1), .val (.long j2), .second, .val (.int p3), .val (.int p4), .val (.int p5), .val (.int (1 : Int32)), .val (.int nn), .val (.int c0), .val (.int c1), .unset, .unset, .unset, .unset, .unset, .unset, .unset, .unset, .unset] [(.long ((j2.toUInt64 >>> ((16 : Int32) &&& 0x3f).toInt64.toUInt64).toInt64))])) rfl (hb hby at_45) _ k) ?_
    show Go p e below _ (s₁.setTop (mkF m 48 #[.val (.int p0), .val (.int p1), .val (.long j2), .second, .val (.int p3), .val (.int p4), .val (.int p5), .val (.int (1 : Int32)), .val (.int nn), .val (.int c0), .val (.int c1), .unset, .unset, .unset, .unset, .unset, .unset, .unset, .unset, .unset] [(.long (255 : Int64)), (.long ((j2.toUInt64 >>> ((16 : Int32) &&& 0x3f).toInt64.toUInt64).toInt64))]))
    refine Go.step (fun _ k => XS.land X0.here hx rfl (hb hby at_48) rfl k) ?_
    show Go p e below _ (s₁.setTop (mkF m 49 #[.val (.int p0), .val (.int p1), .val (.long j2), .second, .val (.int p3), .val (.int p4), .val (.int p5), .val (.int (1 : Int32)), .val (.int nn), .val (.int c0), .val (.int c1), .unset, .unset, .unset, .unset, .unset, .unset, .unset, .unset, .unset] [(.long (((j2.toUInt64 >>> ((16 : Int32) &&& 0x3f).toInt64.toUInt64).toInt64) &&& (255 : Int64)))]))
    refine Go.step (fun _ k => XS.l2i X0.here hx rfl (hb hby at_49) rfl k) ?_
    show Go p e below _ (s₁.setTop (mkF m 50 #[.val (.int p0), .val (.int p1), .val (.long j2), .second, .val (.int p3), .val (.int p4), .val (.int p5), .val (.int (1 : Int32)), .val (.int nn), .val (.int c0), .val (.int c1), .unset, .unset, .unset, .unset, .unset, .unset, .unset, .unset, .unset] [(.int (((j2.toUInt64 >>> ((16 : Int32) &&& 0x3f).toInt64.toUInt64).toInt64) &&& (255 : Int64)).toInt32)]))
    refine Go.step (fun _ k => XS.i2c X0.here hx rfl (hb hby at_50) rfl k) ?_
    show Go p e below _ (s₁.setTop (mkF m 51 #[.val (.int p0), .val (.int p1), .val (.long j2), .second, .val (.int p3), .val (.int p4), .val (.int p5), .val (.int (1 : Int32)), .val (.int nn), .val (.int c0), .val (.int c1), .unset, .unset, .unset, .unset, .unset, .unset, .unset, .unset, .unset] [(.int (nar .char (((j2.toUInt64 >>> ((16 : Int32) &&& 0x3f).toInt64.toUInt64).toInt64) &&& (255 : Int64)).toInt32))]))
    refine own_top (congrArg Value.int (show (nar .char (((j2.toUInt64 >>> ((16 : Int32) &&& 0x3f).toInt64.toUInt64).toInt64) &&& (255 : Int64)).toInt32) = (((j2.toUInt64 >>> ((16 : Int32) &&& 0x3f).toInt64.toUInt64).toInt64) &&& (255 : Int64)).toInt32 from narL _)) ?_
    show Go p e below _ (s₁.setTop (mkF m 51 #[.val (.int p0), .val (.int p1), .val (.long j2), .second, .val (.int p3), .val (.int p4), .val (.int p5), .val (.int (1 : Int32)), .val (.int nn), .val (.int c0), .val (.int c1), .unset, .unset, .unset, .unset, .unset, .unset, .unset, .unset, .unset] [(.int (((j2.toUInt64 >>> ((16 : Int32) &&& 0x3f).toInt64.toUInt64).toInt64) &&& (255 : Int64)).toInt32)]))
    refine Go.step (fun _ k => XS.istore X0.here hx rfl (hb hby at_51) rfl (l' := #[.val (.int p0), .val (.int p1), .val (.long j2), .second, .val (.int p3), .val (.int p4), .val (.int p5), .val (.int (1 : Int32)), .val (.int nn), .val (.int c0), .val (.int c1), .val (.int (((j2.toUInt64 >>> ((16 : Int32) &&& 0x3f).toInt64.toUInt64).toInt64) &&& (255 : Int64)).toInt32), .unset, .unset, .unset, .unset, .unset, .unset, .unset, .unset]) rfl k) ?_
    show Go p e below _ (s₁.setTop (mkF m 53 #[.val (.int p0), .val (.int p1), .val (.long j2), .second, .val (.int p3), .val (.int p4), .val (.int p5), .val (.int (1 : Int32)), .val (.int nn), .val (.int c0), .val (.int c1), .val (.int (((j2.toUInt64 >>> ((16 : Int32) &&& 0x3f).toInt64.toUInt64).toInt64) &&& (255 : Int64)).toInt32), .unset, .unset, .unset, .unset, .unset, .unset, .unset, .unset] []))
    obtain ⟨c2, h_c2⟩ : ∃ z, z = (((j2.toUInt64 >>> ((16 : Int32) &&& 0x3f).toInt64.toUInt64).toInt64) &&& (255 : Int64)).toInt32 := ⟨_, rfl⟩
    rw [← h_c2]
    show Go p e below _ (s₁.setTop (mkF m 53 #[.val (.int p0), .val (.int p1), .val (.long j2), .second, .val (.int p3), .val (.int p4), .val (.int p5), .val (.int (1 : Int32)), .val (.int nn), .val (.int c0), .val (.int c1), .val (.int c2), .unset, .unset, .unset, .unset, .unset, .unset, .unset, .unset] []))
    have l_c2 : ¬ c2 < 0 ∧ ¬ (255 : Int32) < c2 := by rw [h_c2]; exact latL _
    show Go p e below _ (s₁.setTop (mkF m 53 #[.val (.int p0), .val (.int p1), .val (.long j2), .second, .val (.int p3), .val (.int p4), .val (.int p5), .val (.int (1 : Int32)), .val (.int nn), .val (.int c0), .val (.int c1), .val (.int c2), .unset, .unset, .unset, .unset, .unset, .unset, .unset, .unset] []))
    refine Go.step (fun _ k => XS.iload X0.here hx rfl (hb hby at_53) rfl  k) ?_
    show Go p e below _ (s₁.setTop (mkF m 55 #[.val (.int p0), .val (.int p1), .val (.long j2), .second, .val (.int p3), .val (.int p4), .val (.int p5), .val (.int (1 : Int32)), .val (.int nn), .val (.int c0), .val (.int c1), .val (.int c2), .unset, .unset, .unset, .unset, .unset, .unset, .unset, .unset] [(.int nn)]))
    refine Go.step (fun _ k => XS.iload X0.here hx rfl (hb hby at_55) rfl  k) ?_
    show Go p e below _ (s₁.setTop (mkF m 57 #[.val (.int p0), .val (.int p1), .val (.long j2), .second, .val (.int p3), .val (.int p4), .val (.int p5), .val (.int (1 : Int32)), .val (.int nn), .val (.int c0), .val (.int c1), .val (.int c2), .unset, .unset, .unset, .unset, .unset, .unset, .unset, .unset] [(.int c0), (.int nn)]))
    refine Go.step (fun _ k => XS.iload X0.here hx rfl (hb hby at_57) rfl  k) ?_
    show Go p e below _ (s₁.setTop (mkF m 59 #[.val (.int p0), .val (.int p1), .val (.long j2), .second, .val (.int p3), .val (.int p4), .val (.int p5), .val (.int (1 : Int32)), .val (.int nn), .val (.int c0), .val (.int c1), .val (.int c2), .unset, .unset, .unset, .unset, .unset, .unset, .unset, .unset] [(.int c1), (.int c0), (.int nn)]))
    refine Go.step (fun _ k => XS.iload X0.here hx rfl (hb hby at_59) rfl  k) ?_
    show Go p e below _ (s₁.setTop (mkF m 61 #[.val (.int p0), .val (.int p1), .val (.long j2), .second, .val (.int p3), .val (.int p4), .val (.int p5), .val (.int (1 : Int32)), .val (.int nn), .val (.int c0), .val (.int c1), .val (.int c2), .unset, .unset, .unset, .unset, .unset, .unset, .unset, .unset] [(.int c2), (.int c1), (.int c0), (.int nn)]))
    obtain ⟨v_169, T_169, L_169, X_169, hQ_169, hS_169, hZ_169, hown_169, C_169, st_169⟩ := goSW X0 hx hZ (y := ({ cls := "com/example/stubwright/stubwright/idl/TokenMovedToPinLaw", name := "textOf", desc := "(ICCC)Ljava/lang/String;" } : Jvm.MethodName)) hown hS0 hk0 (wd_1 hw) (wd_2 hw) (wd_3 hw) (wd_4 hw) (by decide) (backOfSH (W := 0) (rm_textOf l Z a0 hw zc kd0 kd1 kd2 kd3 kd4 kd5 kd6 kd7 kd8 kd9 kd10 kd11 kd12 kd13 kd14 kd15 kd16 kd17 (nn) (c0) (c1) (c2) h0 n0 (Nat.le_trans Z0 KP0.1) (by assumption) (by assumption) (by assumption) hSt hO) hZ (wd_4 hw) (wd_3 hw) (by decide) (by decide) hEL CV0) e0 (g := (mkF m 61 #[.val (.int p0), .val (.int p1), .val (.long j2), .second, .val (.int p3), .val (.int p4), .val (.int p5), .val (.int (1 : Int32)), .val (.int nn), .val (.int c0), .val (.int c1), .val (.int c2), .unset, .unset, .unset, .unset, .unset, .unset, .unset, .unset] [(.int c2), (.int c1), (.int c0), (.int nn)])) rfl (by rw [hml]; rfl) (argsL := [(.int nn), (.int c0), (.int c1), (.int c2)]) (rest := []) rfl (lenOf pd_7 rfl) rfl (by show 2 * 0 + _ ≤ _; exact Nat.le_of_eq rfl) (hb hby at_61) (by decide) (by decide)
    obtain ⟨r_169, rfl, Nq_169, K_169, u0_169, u1_169⟩ := hQ_169
    have N_169 := Fr.app N0 Nq_169
    have CR_169 := CHr.trans (CHr.refl CV0) C_169
    have le_169 : h0.size ≤ T_169.heap.size := K_169.1
    have KP_169 := KP0.trans K_169 all0
    have O_169 := hO.keep K_169 all0
    have sz_r_169 : h0.size ≤ r_169 := Nat.le_trans (Nat.le_refl _) u0_169
    have g_r_169 : n0 ≤ r_169 := Nat.le_trans Z0 sz_r_169
    refine Go.step st_169 ?_
    show Go p e below _ (T_169.setTop (mkF m 64 #[.val (.int p0), .val (.int p1), .val (.long j2), .second, .val (.int p3), .val (.int p4), .val (.int p5), .val (.int (1 : Int32)), .val (.int nn), .val (.int c0), .val (.int c1), .val (.int c2), .unset, .unset, .unset, .unset, .unset, .unset, .unset, .unset] [(.ref r_169)]))
    refine Go.step (fun _ k => XS.astore X_169.here hx rfl (hb hby at_64) rfl rfl (l' := #[.val (.int p0), .val (.int p1), .val (.long j2), .second, .val (.int p3), .val (.int p4), .val (.int p5), .val (.int (1 : Int32)), .val (.int nn), .val (.int c0), .val (.int c1), .val (.int c2), .val (.ref r_169), .unset, .unset, .unset, .unset, .unset, .unset, .unset]) rfl k) ?_
    show Go p e below _ (T_169.setTop (mkF m 66 #[.val (.int p0), .val (.int p1), .val (.long j2), .second, .val (.int p3), .val (.int p4), .val (.int p5), .val (.int (1 : Int32)), .val (.int nn), .val (.int c0), .val (.int c1), .val (.int c2), .val (.ref r_169), .unset, .unset, .unset, .unset, .unset, .unset, .unset] []))
    refine Go.step (fun _ k => XS.lloadN X_169.here hx rfl (hb hby at_66) rfl  k) ?_
    show Go p e below _ (T_169.setTop (mkF m 67 #[.val (.int p0), .val (.int p1), .val (.long j2), .second, .val (.int p3), .val (.int p4), .val (.int p5), .val (.int (1 : Int32)), .val (.int nn), .val (.int c0), .val (.int c1), .val (.int c2), .val (.ref r_169), .unset, .unset, .unset, .unset, .unset, .unset, .unset] [(.long j2)]))
    refine Go.step (fun _ k => XS.bipush X_169.here hx rfl (hb hby at_67) k) ?_
    show Go p e below _ (T_169.setTop (mkF m 69 #[.val (.int p0), .val (.int p1), .val (.long j2), .second, .val (.int p3), .val (.int p4), .val (.int p5), .val (.int (1 : Int32)), .val (.int nn), .val (.int c0), .val (.int c1), .val (.int c2), .val (.ref r_169), .unset, .unset, .unset, .unset, .unset, .unset, .unset] [(.int (24 : Int32)), (.long j2)]))
    refine Go.step (fun _ k => XS.lushr X_169.here hx rfl (hb hby at_69) rfl k) ?_
    show Go p e below _ (T_169.setTop (mkF m 70 #[.val (.int p0), .val (.int p1), .val (.long j2), .second, .val (.int p3), .val (.int p4), .val (.int p5), .val (.int (1 : Int32)), .val (.int nn), .val (.int c0), .val (.int c1), .val (.int c2), .val (.ref r_169), .unset, .unset, .unset, .unset, .unset, .unset, .unset] [(.long ((j2.toUInt64 >>> ((24 : Int32) &&& 0x3f).toInt64.toUInt64).toInt64))]))
    refine Go.step (fun _ k => X_169.ldc2Long hx hown_169 (mvT hZ_169 (wd_0 hw)) (g := (mkF m 70 #[.val (.int p0), .val (.int p1), .val (.long j2), .second, .val (.int p3), .val (.int p4), .val (.int p5), .val (.int (1 : Int32)), .val (.int nn), .val (.int c0), .val (.int c1), .val (.int c2), .val (.ref r_169), .unset, .unset, .unset, .unset, .unset, .unset, .unset] [(.long ((j2.toUInt64 >>> ((24 : Int32) &&& 0x3f).toInt64.toUInt64).toInt64))])) rfl (hb hby at_70) _ k) ?_
    show Go p e below _ (T_169.setTop (mkF m 73 #[.val (.int p0), .val (.int p1), .val (.long j2), .second, .val (.int p3), .val (.int p4), .val (.int p5), .val (.int (1 : Int32)), .val (.int nn), .val (.int c0), .val (.int c1), .val (.int c2), .val (.ref r_169), .unset, .unset, .unset, .unset, .unset, .unset, .unset] [(.long (255 : Int64)), (.long ((j2.toUInt64 >>> ((24 : Int32) &&& 0x3f).toInt64.toUInt64).toInt64))]))
    refine Go.step (fun _ k => XS.land X_169.here hx rfl (hb hby at_73) rfl k) ?_
    show Go p e below _ (T_169.setTop (mkF m 74 #[.val (.int p0), .val (.int p1), .val (.long j2), .second, .val (.int p3), .val (.int p4), .val (.int p5), .val (.int (1 : Int32)), .val (.int nn), .val (.int c0), .val (.int c1), .val (.int c2), .val (.ref r_169), .unset, .unset, .unset, .unset, .unset, .unset, .unset] [(.long (((j2.toUInt64 >>> ((24 : Int32) &&& 0x3f).toInt64.toUInt64).toInt64) &&& (255 : Int64)))]))
    refine Go.step (fun _ k => XS.l2i X_169.here hx rfl (hb hby at_74) rfl k) ?_
    show Go p e below _ (T_169.setTop (mkF m 75 #[.val (.int p0), .val (.int p1), .val (.long j2), .second, .val (.int p3), .val (.int p4), .val (.int p5), .val (.int (1 : Int32)), .val (.int nn), .val (.int c0), .val (.int c1), .val (.int c2), .val (.ref r_169), .unset, .unset, .unset, .unset, .unset, .unset, .unset] [(.int (((j2.toUInt64 >>> ((24 : Int32) &&& 0x3f).toInt64.toUInt64).toInt64) &&& (255 : Int64)).toInt32)]))
    refine Go.step (fun _ k => XS.i2c X_169.here hx rfl (hb hby at_75) rfl k) ?_
    show Go p e below _ (T_169.setTop (mkF m 76 #[.val (.int p0), .val (.int p1), .val (.long j2), .second, .val (.int p3), .val (.int p4), .val (.int p5), .val (.int (1 : Int32)), .val (.int nn), .val (.int c0), .val (.int c1), .val (.int c2), .val (.ref r_169), .unset, .unset, .unset, .unset, .unset, .unset, .unset] [(.int (nar .char (((j2.toUInt64 >>> ((24 : Int32) &&& 0x3f).toInt64.toUInt64).toInt64) &&& (255 : Int64)).toInt32))]))
    refine own_top (congrArg Value.int (show (nar .char (((j2.toUInt64 >>> ((24 : Int32) &&& 0x3f).toInt64.toUInt64).toInt64) &&& (255 : Int64)).toInt32) = (((j2.toUInt64 >>> ((24 : Int32) &&& 0x3f).toInt64.toUInt64).toInt64) &&& (255 : Int64)).toInt32 from narL _)) ?_
    show Go p e below _ (T_169.setTop (mkF m 76 #[.val (.int p0), .val (.int p1), .val (.long j2), .second, .val (.int p3), .val (.int p4), .val (.int p5), .val (.int (1 : Int32)), .val (.int nn), .val (.int c0), .val (.int c1), .val (.int c2), .val (.ref r_169), .unset, .unset, .unset, .unset, .unset, .unset, .unset] [(.int (((j2.toUInt64 >>> ((24 : Int32) &&& 0x3f).toInt64.toUInt64).toInt64) &&& (255 : Int64)).toInt32)]))
    obtain ⟨v_170, T_170, L_170, X_170, hQ_170, st_170⟩ := goS X_169 hx hZ_169 (y := ({ cls := "java/lang/String", name := "valueOf", desc := "(C)Ljava/lang/String;" } : Jvm.MethodName)) hown_169 (wd_35 hw) (wd_36 hw) (wd_7 hw) (wd_37 hw) (by decide) (backOf (W := 0) (rm_valueOf l Z a0 hw zc kd0 kd1 kd2 kd3 kd4 kd5 kd6 kd7 kd8 kd9 kd10 kd11 kd12 kd13 kd14 kd15 kd16 kd17 ((((j2.toUInt64 >>> ((24 : Int32) &&& 0x3f).toInt64.toUInt64).toInt64) &&& (255 : Int64)).toInt32) T_169.heap n0 (Nat.le_trans Z0 KP_169.1) (latL _) hSt O_169) hZ_169 (wd_37 hw) (wd_7 hw) (by decide) (by decide)) rfl (g := (mkF m 76 #[.val (.int p0), .val (.int p1), .val (.long j2), .second, .val (.int p3), .val (.int p4), .val (.int p5), .val (.int (1 : Int32)), .val (.int nn), .val (.int c0), .val (.int c1), .val (.int c2), .val (.ref r_169), .unset, .unset, .unset, .unset, .unset, .unset, .unset] [(.int (((j2.toUInt64 >>> ((24 : Int32) &&& 0x3f).toInt64.toUInt64).toInt64) &&& (255 : Int64)).toInt32)])) rfl (by rw [hml]; rfl) (argsL := [(.int (((j2.toUInt64 >>> ((24 : Int32) &&& 0x3f).toInt64.toUInt64).toInt64) &&& (255 : Int64)).toInt32)]) (rest := []) rfl (lenOf pd_8 rfl) rfl (by show 2 * 0 + _ ≤ _; exact Nat.le_of_eq rfl) (hb hby at_76) (by decide) (by decide)
    obtain ⟨r_170, rfl, Nq_170, K_170, u0_170, u1_170⟩ := hQ_170
    have N_170 := Fr.app N_169 Nq_170
    have C_170 := CHr.keep K_170 sf0 C_169.1
    have CR_170 := CHr.trans CR_169 C_170
    have le_170 : T_169.heap.size ≤ T_170.heap.size := K_170.1
    have KP_170 := KP_169.trans K_170 all0
    have O_170 := O_169.keep K_170 all0
    have sz_r_170 : h0.size ≤ r_170 := Nat.le_trans le_169 u0_170
    have g_r_170 : n0 ≤ r_170 := Nat.le_trans Z0 sz_r_170
    refine Go.step st_170 ?_
    show Go p e below _ (T_170.setTop (mkF m 79 #[.val (.int p0), .val (.int p1), .val (.long j2), .second, .val (.int p3), .val (.int p4), .val (.int p5), .val (.int (1 : Int32)), .val (.int nn), .val (.int c0), .val (.int c1), .val (.int c2), .val (.ref r_169), .unset, .unset, .unset, .unset, .unset, .unset, .unset] [(.ref r_170)]))
    refine Go.step (fun _ k => XS.astore X_170.here hx rfl (hb hby at_79) rfl rfl (l' := #[.val (.int p0), .val (.int p1), .val (.long j2), .second, .val (.int p3), .val (.int p4), .val (.int p5), .val (.int (1 : Int32)), .val (.int nn), .val (.int c0), .val (.int c1), .val (.int c2), .val (.ref r_169), .val (.ref r_170), .unset, .unset, .unset, .unset, .unset, .unset]) rfl k) ?_
    show Go p e below _ (T_170.setTop (mkF m 81 #[.val (.int p0), .val (.int p1), .val (.long j2), .second, .val (.int p3), .val (.int p4), .val (.int p5), .val (.int (1 : Int32)), .val (.int nn), .val (.int c0), .val (.int c1), .val (.int c2), .val (.ref r_169), .val (.ref r_170), .unset, .unset, .unset, .unset, .unset, .unset] []))
    refine Go.step (fun _ k => XS.lloadN X_170.here hx rfl (hb hby at_81) rfl  k) ?_
    show Go p e below _ (T_170.setTop (mkF m 82 #[.val (.int p0), .val (.int p1), .val (.long j2), .second, .val (.int p3), .val (.int p4), .val (.int p5), .val (.int (1 : Int32)), .val (.int nn), .val (.int c0), .val (.int c1), .val (.int c2), .val (.ref r_169), .val (.ref r_170), .unset, .unset, .unset, .unset, .unset, .unset] [(.long j2)]))
    refine Go.step (fun _ k => XS.bipush X_170.here hx rfl (hb hby at_82) k) ?_
    show Go p e below _ (T_170.setTop (mkF m 84 #[.val (.int p0), .val (.int p1), .val (.long j2), .second, .val (.int p3), .val (.int p4), .val (.int p5), .val (.int (1 : Int32)), .val (.int nn), .val (.int c0), .val (.int c1), .val (.int c2), .val (.ref r_169), .val (.ref r_170), .unset, .unset, .unset, .unset, .unset, .unset] [(.int (32 : Int32)), (.long j2)]))
    refine Go.step (fun _ k => XS.lushr X_170.here hx rfl (hb hby at_84) rfl k) ?_
    show Go p e below _ (T_170.setTop (mkF m 85 #[.val (.int p0), .val (.int p1), .val (.long j2), .second, .val (.int p3), .val (.int p4), .val (.int p5), .val (.int (1 : Int32)), .val (.int nn), .val (.int c0), .val (.int c1), .val (.int c2), .val (.ref r_169), .val (.ref r_170), .unset, .unset, .unset, .unset, .unset, .unset] [(.long ((j2.toUInt64 >>> ((32 : Int32) &&& 0x3f).toInt64.toUInt64).toInt64))]))
    refine Go.step (fun _ k => X_170.ldc2Long hx hown_169 (mvT hZ_169 (wd_0 hw)) (g := (mkF m 85 #[.val (.int p0), .val (.int p1), .val (.long j2), .second, .val (.int p3), .val (.int p4), .val (.int p5), .val (.int (1 : Int32)), .val (.int nn), .val (.int c0), .val (.int c1), .val (.int c2), .val (.ref r_169), .val (.ref r_170), .unset, .unset, .unset, .unset, .unset, .unset] [(.long ((j2.toUInt64 >>> ((32 : Int32) &&& 0x3f).toInt64.toUInt64).toInt64))])) rfl (hb hby at_85) _ k) ?_
    show Go p e below _ (T_170.setTop (mkF m 88 #[.val (.int p0), .val (.int p1), .val (.long j2), .second, .val (.int p3), .val (.int p4), .val (.int p5), .val (.int (1 : Int32)), .val (.int nn), .val (.int c0), .val (.int c1), .val (.int c2), .val (.ref r_169), .val (.ref r_170), .unset, .unset, .unset, .unset, .unset, .unset] [(.long (255 : Int64)), (.long ((j2.toUInt64 >>> ((32 : Int32) &&& 0x3f).toInt64.toUInt64).toInt64))]))
    refine Go.step (fun _ k => XS.land X_170.here hx rfl (hb hby at_88) rfl k) ?_
    show Go p e below _ (T_170.setTop (mkF m 89 #[.val (.int p0), .val (.int p1), .val (.long j2), .second, .val (.int p3), .val (.int p4), .val (.int p5), .val (.int (1 : Int32)), .val (.int nn), .val (.int c0), .val (.int c1), .val (.int c2), .val (.ref r_169), .val (.ref r_170), .unset, .unset, .unset, .unset, .unset, .unset] [(.long (((j2.toUInt64 >>> ((32 : Int32) &&& 0x3f).toInt64.toUInt64).toInt64) &&& (255 : Int64)))]))
    refine Go.step (fun _ k => XS.l2i X_170.here hx rfl (hb hby at_89) rfl k) ?_
    show Go p e below _ (T_170.setTop (mkF m 90 #[.val (.int p0), .val (.int p1), .val (.long j2), .second, .val (.int p3), .val (.int p4), .val (.int p5), .val (.int (1 : Int32)), .val (.int nn), .val (.int c0), .val (.int c1), .val (.int c2), .val (.ref r_169), .val (.ref r_170), .unset, .unset, .unset, .unset, .unset, .unset] [(.int (((j2.toUInt64 >>> ((32 : Int32) &&& 0x3f).toInt64.toUInt64).toInt64) &&& (255 : Int64)).toInt32)]))
    refine Go.step (fun _ k => XS.i2c X_170.here hx rfl (hb hby at_90) rfl k) ?_
    show Go p e below _ (T_170.setTop (mkF m 91 #[.val (.int p0), .val (.int p1), .val (.long j2), .second, .val (.int p3), .val (.int p4), .val (.int p5), .val (.int (1 : Int32)), .val (.int nn), .val (.int c0), .val (.int c1), .val (.int c2), .val (.ref r_169), .val (.ref r_170), .unset, .unset, .unset, .unset, .unset, .unset] [(.int (nar .char (((j2.toUInt64 >>> ((32 : Int32) &&& 0x3f).toInt64.toUInt64).toInt64) &&& (255 : Int64)).toInt32))]))
    refine own_top (congrArg Value.int (show (nar .char (((j2.toUInt64 >>> ((32 : Int32) &&& 0x3f).toInt64.toUInt64).toInt64) &&& (255 : Int64)).toInt32) = (((j2.toUInt64 >>> ((32 : Int32) &&& 0x3f).toInt64.toUInt64).toInt64) &&& (255 : Int64)).toInt32 from narL _)) ?_
    show Go p e below _ (T_170.setTop (mkF m 91 #[.val (.int p0), .val (.int p1), .val (.long j2), .second, .val (.int p3), .val (.int p4), .val (.int p5), .val (.int (1 : Int32)), .val (.int nn), .val (.int c0), .val (.int c1), .val (.int c2), .val (.ref r_169), .val (.ref r_170), .unset, .unset, .unset, .unset, .unset, .unset] [(.int (((j2.toUInt64 >>> ((32 : Int32) &&& 0x3f).toInt64.toUInt64).toInt64) &&& (255 : Int64)).toInt32)]))
    obtain ⟨v_171, T_171, L_171, X_171, hQ_171, st_171⟩ := goS X_170 hx hZ_169 (y := ({ cls := "java/lang/String", name := "valueOf", desc := "(C)Ljava/lang/String;" } : Jvm.MethodName)) hown_169 (wd_35 hw) (wd_36 hw) (wd_7 hw) (wd_37 hw) (by decide) (backOf (W := 0) (rm_valueOf l Z a0 hw zc kd0 kd1 kd2 kd3 kd4 kd5 kd6 kd7 kd8 kd9 kd10 kd11 kd12 kd13 kd14 kd15 kd16 kd17 ((((j2.toUInt64 >>> ((32 : Int32) &&& 0x3f).toInt64.toUInt64).toInt64) &&& (255 : Int64)).toInt32) T_170.heap n0 (Nat.le_trans Z0 KP_170.1) (latL _) hSt O_170) hZ_169 (wd_37 hw) (wd_7 hw) (by decide) (by decide)) rfl (g := (mkF m 91 #[.val (.int p0), .val (.int p1), .val (.long j2), .second, .val (.int p3), .val (.int p4), .val (.int p5), .val (.int (1 : Int32)), .val (.int nn), .val (.int c0), .val (.int c1), .val (.int c2), .val (.ref r_169), .val (.ref r_170), .unset, .unset, .unset, .unset, .unset, .unset] [(.int (((j2.toUInt64 >>> ((32 : Int32) &&& 0x3f).toInt64.toUInt64).toInt64) &&& (255 : Int64)).toInt32)])) rfl (by rw [hml]; rfl) (argsL := [(.int (((j2.toUInt64 >>> ((32 : Int32) &&& 0x3f).toInt64.toUInt64).toInt64) &&& (255 : Int64)).toInt32)]) (rest := []) rfl (lenOf pd_8 rfl) rfl (by show 2 * 0 + _ ≤ _; exact Nat.le_of_eq rfl) (hb hby at_91) (by decide) (by decide)
    obtain ⟨r_171, rfl, Nq_171, K_171, u0_171, u1_171⟩ := hQ_171
    have N_171 := Fr.app N_170 Nq_171
    have C_171 := CHr.keep K_171 sf0 C_170.1
    have CR_171 := CHr.trans CR_170 C_171
    have le_171 : T_170.heap.size ≤ T_171.heap.size := K_171.1
    have KP_171 := KP_170.trans K_171 all0
    have O_171 := O_170.keep K_171 all0
    have sz_r_171 : h0.size ≤ r_171 := Nat.le_trans (Nat.le_trans le_169 le_170) u0_171
    have g_r_171 : n0 ≤ r_171 := Nat.le_trans Z0 sz_r_171
    refine Go.step st_171 ?_
    show Go p e below _ (T_171.setTop (mkF m 94 #[.val (.int p0), .val (.int p1), .val (.long j2), .second, .val (.int p3), .val (.int p4), .val (.int p5), .val (.int (1 : Int32)), .val (.int nn), .val (.int c0), .val (.int c1), .val (.int c2), .val (.ref r_169), .val (.ref r_170), .unset, .unset, .unset, .unset, .unset, .unset] [(.ref r_171)]))
    refine Go.step (fun _ k => XS.astore X_171.here hx rfl (hb hby at_94) rfl rfl (l' := #[.val (.int p0), .val (.int p1), .val (.long j2), .second, .val (.int p3), .val (.int p4), .val (.int p5), .val (.int (1 : Int32)), .val (.int nn), .val (.int c0), .val (.int c1), .val (.int c2), .val (.ref r_169), .val (.ref r_170), .val (.ref r_171), .unset, .unset, .unset, .unset, .unset]) rfl k) ?_
    show Go p e below _ (T_171.setTop (mkF m 96 #[.val (.int p0), .val (.int p1), .val (.long j2), .second, .val (.int p3), .val (.int p4), .val (.int p5), .val (.int (1 : Int32)), .val (.int nn), .val (.int c0), .val (.int c1), .val (.int c2), .val (.ref r_169), .val (.ref r_170), .val (.ref r_171), .unset, .unset, .unset, .unset, .unset] []))
    obtain ⟨T_172, h_172, X_172, e_172, E_172, A_172, D_172, -, st_172⟩ := newO X_171 hx hZ_169 hown_169 (wd_49 hw) (wd_50 hw) (wd_51 hw) rfl (g := (mkF m 96 #[.val (.int p0), .val (.int p1), .val (.long j2), .second, .val (.int p3), .val (.int p4), .val (.int p5), .val (.int (1 : Int32)), .val (.int nn), .val (.int c0), .val (.int c1), .val (.int c2), .val (.ref r_169), .val (.ref r_170), .val (.ref r_171), .unset, .unset, .unset, .unset, .unset] [])) rfl (hb hby at_96) (by decide) (by decide)
    obtain ⟨b172, q_172⟩ : ∃ z, z = T_171.heap.size := ⟨_, rfl⟩
    rw [← q_172] at A_172 D_172 st_172
    refine Go.step st_172 ?_
    have C_172 := CHr.ext E_172 C_171.1
    have CR_172 := CHr.trans CR_171 C_172
    have le_172 : T_171.heap.size ≤ h_172.size := E_172.1
    have KP_172 := KP_171.ext E_172
    have O_172 := O_171.ext E_172
    have ge_172 : T_171.heap.size ≤ b172 := Nat.le_of_eq q_172.symm
    have sz_b172 : h0.size ≤ b172 := Nat.le_trans (Nat.le_trans le_169 (Nat.le_trans le_170 le_171)) ge_172
    have g_b172 : n0 ≤ b172 := Nat.le_trans Z0 sz_b172
    have F_172_65 : Fld Z h_172 b172 "com/example/stubwright/stubwright/SourcePosition" "file" "Ljava/lang/String;" .null := D_172 (Or.inr (wd_65 hw)) (ty := (.object "java/lang/String")) pf_2
    have F_172_67 : Fld Z h_172 b172 "com/example/stubwright/stubwright/SourcePosition" "line" "I" (.int (0 : Int32)) := D_172 (Or.inr (wd_67 hw)) (ty := .int) pf_3
    have F_172_69 : Fld Z h_172 b172 "com/example/stubwright/stubwright/SourcePosition" "column" "I" (.int (0 : Int32)) := D_172 (Or.inr (wd_69 hw)) (ty := .int) pf_3
    have Sf_b172 := Safe.ext E_172 C_171.1 (Safe.new ge_172)
    show Go p e below _ (T_172.setTop (mkF m 99 #[.val (.int p0), .val (.int p1), .val (.long j2), .second, .val (.int p3), .val (.int p4), .val (.int p5), .val (.int (1 : Int32)), .val (.int nn), .val (.int c0), .val (.int c1), .val (.int c2), .val (.ref r_169), .val (.ref r_170), .val (.ref r_171), .unset, .unset, .unset, .unset, .unset] [(.ref b172)]))
    refine Go.step (fun _ k => XS.dup X_172.here hx rfl (hb hby at_99) rfl rfl k) ?_
    show Go p e below _ (T_172.setTop (mkF m 100 #[.val (.int p0), .val (.int p1), .val (.long j2), .second, .val (.int p3), .val (.int p4), .val (.int p5), .val (.int (1 : Int32)), .val (.int nn), .val (.int c0), .val (.int c1), .val (.int c2), .val (.ref r_169), .val (.ref r_170), .val (.ref r_171), .unset, .unset, .unset, .unset, .unset] [(.ref b172), (.ref b172)]))
    refine Go.step (fun _ k => XS.aload X_172.here hx rfl (hb hby at_100) rfl rfl k) ?_
    show Go p e below _ (T_172.setTop (mkF m 102 #[.val (.int p0), .val (.int p1), .val (.long j2), .second, .val (.int p3), .val (.int p4), .val (.int p5), .val (.int (1 : Int32)), .val (.int nn), .val (.int c0), .val (.int c1), .val (.int c2), .val (.ref r_169), .val (.ref r_170), .val (.ref r_171), .unset, .unset, .unset, .unset, .unset] [(.ref r_170), (.ref b172), (.ref b172)]))
    refine Go.step (fun _ k => XS.iload X_172.here hx rfl (hb hby at_102) rfl  k) ?_
    show Go p e below _ (T_172.setTop (mkF m 104 #[.val (.int p0), .val (.int p1), .val (.long j2), .second, .val (.int p3), .val (.int p4), .val (.int p5), .val (.int (1 : Int32)), .val (.int nn), .val (.int c0), .val (.int c1), .val (.int c2), .val (.ref r_169), .val (.ref r_170), .val (.ref r_171), .unset, .unset, .unset, .unset, .unset] [(.int p5), (.ref r_170), (.ref b172), (.ref b172)]))
    refine Go.step (fun _ k => XS.iload X_172.here hx rfl (hb hby at_104) rfl  k) ?_
    show Go p e below _ (T_172.setTop (mkF m 106 #[.val (.int p0), .val (.int p1), .val (.long j2), .second, .val (.int p3), .val (.int p4), .val (.int p5), .val (.int (1 : Int32)), .val (.int nn), .val (.int c0), .val (.int c1), .val (.int c2), .val (.ref r_169), .val (.ref r_170), .val (.ref r_171), .unset, .unset, .unset, .unset, .unset] [(.int p5), (.int p5), (.ref r_170), (.ref b172), (.ref b172)]))
    refine Go.step (fun _ k => XS.iload X_172.here hx rfl (hb hby at_106) rfl  k) ?_
    show Go p e below _ (T_172.setTop (mkF m 108 #[.val (.int p0), .val (.int p1), .val (.long j2), .second, .val (.int p3), .val (.int p4), .val (.int p5), .val (.int (1 : Int32)), .val (.int nn), .val (.int c0), .val (.int c1), .val (.int c2), .val (.ref r_169), .val (.ref r_170), .val (.ref r_171), .unset, .unset, .unset, .unset, .unset] [(.int p4), (.int p5), (.int p5), (.ref r_170), (.ref b172), (.ref b172)]))
    refine Go.step (fun _ k => XS.ixor X_172.here hx rfl (hb hby at_108) rfl k) ?_
    show Go p e below _ (T_172.setTop (mkF m 109 #[.val (.int p0), .val (.int p1), .val (.long j2), .second, .val (.int p3), .val (.int p4), .val (.int p5), .val (.int (1 : Int32)), .val (.int nn), .val (.int c0), .val (.int c1), .val (.int c2), .val (.ref r_169), .val (.ref r_170), .val (.ref r_171), .unset, .unset, .unset, .unset, .unset] [(.int (p5 ^^^ p4)), (.int p5), (.ref r_170), (.ref b172), (.ref b172)]))
    have f173 : Str Z T_170.heap.size h_172 r_170 ([(((j2.toUInt64 >>> ((24 : Int32) &&& 0x3f).toInt64.toUInt64).toInt64) &&& (255 : Int64)).toInt32] : List Int32) := ((u1_170.keep K_171 all0).ext E_172)
    obtain ⟨v_174, T_174, L_174, X_174, hQ_174, hS_174, hZ_174, hown_174, C_174, st_174⟩ := goCW X_172 hx hZ_169 (y := ({ cls := "com/example/stubwright/stubwright/SourcePosition", name := "<init>", desc := "(Ljava/lang/String;II)V" } : Jvm.MethodName)) hown_169 hS_169 (Nat.le_trans (Nat.le_refl _) (Nat.le_trans le_170 (Nat.le_trans le_171 le_172))) rfl (wd_52 hw) (wd_53 hw) (wd_54 hw) (by decide) (backOfSH (W := 1) (rm_initSP l Z a0 hw zc kd0 kd1 kd2 kd3 kd4 kd5 kd6 kd7 kd8 kd9 kd10 kd11 kd12 kd13 kd14 kd15 kd16 kd17 (b172) (r_170) (([(((j2.toUInt64 >>> ((24 : Int32) &&& 0x3f).toInt64.toUInt64).toInt64) &&& (255 : Int64)).toInt32] : List Int32)) (p5) ((p5 ^^^ p4)) h_172 n0 (Nat.le_trans Z0 KP_172.1) A_172 g_b172 (f173.mono (Nat.le_trans le_171 le_172)) F_172_65 F_172_67 F_172_69 hSt O_172) hZ_169 (wd_54 hw) (wd_51 hw) (by decide) (by decide) hEL C_172.1) e_172 (g := (mkF m 109 #[.val (.int p0), .val (.int p1), .val (.long j2), .second, .val (.int p3), .val (.int p4), .val (.int p5), .val (.int (1 : Int32)), .val (.int nn), .val (.int c0), .val (.int c1), .val (.int c2), .val (.ref r_169), .val (.ref r_170), .val (.ref r_171), .unset, .unset, .unset, .unset, .unset] [(.int (p5 ^^^ p4)), (.int p5), (.ref r_170), (.ref b172), (.ref b172)])) rfl (by rw [hml]; rfl) (a := b172) (argsL := [(.ref r_170), (.int p5), (.int (p5 ^^^ p4))]) (rest := [(.ref b172)]) rfl (lenOf pd_9 rfl) rfl (by show 2 * 0 + _ ≤ _; exact Nat.le_of_eq rfl) (hb hby at_109) (by decide) (by decide)
    obtain ⟨rfl, Nq_174, K_174⟩ := hQ_174
    have N_174 := Fr.app N_171 Nq_174
    have CR_174 := CHr.trans CR_172 C_174
    have le_174 : h_172.size ≤ T_174.heap.size := K_174.1
    have KP_174 := KP_172.trans K_174 (allS (Or.inr sz_b172) all0)
    have O_174 := O_172.keep K_174 (allS g_b172 all0)
    refine Go.step st_174 ?_
    show Go p e below _ (T_174.setTop (mkF m 112 #[.val (.int p0), .val (.int p1), .val (.long j2), .second, .val (.int p3), .val (.int p4), .val (.int p5), .val (.int (1 : Int32)), .val (.int nn), .val (.int c0), .val (.int c1), .val (.int c2), .val (.ref r_169), .val (.ref r_170), .val (.ref r_171), .unset, .unset, .unset, .unset, .unset] [(.ref b172)]))
    refine Go.step (fun _ k => XS.astore X_174.here hx rfl (hb hby at_112) rfl rfl (l' := #[.val (.int p0), .val (.int p1), .val (.long j2), .second, .val (.int p3), .val (.int p4), .val (.int p5), .val (.int (1 : Int32)), .val (.int nn), .val (.int c0), .val (.int c1), .val (.int c2), .val (.ref r_169), .val (.ref r_170), .val (.ref r_171), .val (.ref b172), .unset, .unset, .unset, .unset]) rfl k) ?_
    show Go p e below _ (T_174.setTop (mkF m 114 #[.val (.int p0), .val (.int p1), .val (.long j2), .second, .val (.int p3), .val (.int p4), .val (.int p5), .val (.int (1 : Int32)), .val (.int nn), .val (.int c0), .val (.int c1), .val (.int c2), .val (.ref r_169), .val (.ref r_170), .val (.ref r_171), .val (.ref b172), .unset, .unset, .unset, .unset] []))
    obtain ⟨T_175, h_175, X_175, e_175, E_175, A_175, D_175, -, st_175⟩ := newO X_174 hx hZ_174 hown_174 (wd_49 hw) (wd_50 hw) (wd_51 hw) rfl (g := (mkF m 114 #[.val (.int p0), .val (.int p1), .val (.long j2), .second, .val (.int p3), .val (.int p4), .val (.int p5), .val (.int (1 : Int32)), .val (.int nn), .val (.int c0), .val (.int c1), .val (.int c2), .val (.ref r_169), .val (.ref r_170), .val (.ref r_171), .val (.ref b172), .unset, .unset, .unset, .unset] [])) rfl (hb hby at_114) (by decide) (by decide)
    obtain ⟨b175, q_175⟩ : ∃ z, z = T_174.heap.size := ⟨_, rfl⟩
    rw [← q_175] at A_175 D_175 st_175
    refine Go.step st_175 ?_
    have C_175 := CHr.ext E_175 C_174.1
    have CR_175 := CHr.trans CR_174 C_175
    have le_175 : T_174.heap.size ≤ h_175.size := E_175.1
    have KP_175 := KP_174.ext E_175
    have O_175 := O_174.ext E_175
    have ge_175 : T_174.heap.size ≤ b175 := Nat.le_of_eq q_175.symm
    have sz_b175 : h0.size ≤ b175 := Nat.le_trans (Nat.le_trans le_169 (Nat.le_trans le_170 (Nat.le_trans le_171 (Nat.le_trans le_172 le_174)))) ge_175
    have g_b175 : n0 ≤ b175 := Nat.le_trans Z0 sz_b175
    have F_175_65 : Fld Z h_175 b175 "com/example/stubwright/stubwright/SourcePosition" "file" "Ljava/lang/String;" .null := D_175 (Or.inr (wd_65 hw)) (ty := (.object "java/lang/String")) pf_2
    have F_175_67 : Fld Z h_175 b175 "com/example/stubwright/stubwright/SourcePosition" "line" "I" (.int (0 : Int32)) := D_175 (Or.inr (wd_67 hw)) (ty := .int) pf_3
    have F_175_69 : Fld Z h_175 b175 "com/example/stubwright/stubwright/SourcePosition" "column" "I" (.int (0 : Int32)) := D_175 (Or.inr (wd_69 hw)) (ty := .int) pf_3
    have Sf_b175 := Safe.ext E_175 C_174.1 (Safe.new ge_175)
    show Go p e below _ (T_175.setTop (mkF m 117 #[.val (.int p0), .val (.int p1), .val (.long j2), .second, .val (.int p3), .val (.int p4), .val (.int p5), .val (.int (1 : Int32)), .val (.int nn), .val (.int c0), .val (.int c1), .val (.int c2), .val (.ref r_169), .val (.ref r_170), .val (.ref r_171), .val (.ref b172), .unset, .unset, .unset, .unset] [(.ref b175)]))
    refine Go.step (fun _ k => XS.dup X_175.here hx rfl (hb hby at_117) rfl rfl k) ?_
    show Go p e below _ (T_175.setTop (mkF m 118 #[.val (.int p0), .val (.int p1), .val (.long j2), .second, .val (.int p3), .val (.int p4), .val (.int p5), .val (.int (1 : Int32)), .val (.int nn), .val (.int c0), .val (.int c1), .val (.int c2), .val (.ref r_169), .val (.ref r_170), .val (.ref r_171), .val (.ref b172), .unset, .unset, .unset, .unset] [(.ref b175), (.ref b175)]))
    refine Go.step (fun _ k => XS.aload X_175.here hx rfl (hb hby at_118) rfl rfl k) ?_
    show Go p e below _ (T_175.setTop (mkF m 120 #[.val (.int p0), .val (.int p1), .val (.long j2), .second, .val (.int p3), .val (.int p4), .val (.int p5), .val (.int (1 : Int32)), .val (.int nn), .val (.int c0), .val (.int c1), .val (.int c2), .val (.ref r_169), .val (.ref r_170), .val (.ref r_171), .val (.ref b172), .unset, .unset, .unset, .unset] [(.ref r_171), (.ref b175), (.ref b175)]))
    refine Go.step (fun _ k => XS.iload X_175.here hx rfl (hb hby at_120) rfl  k) ?_
    show Go p e below _ (T_175.setTop (mkF m 122 #[.val (.int p0), .val (.int p1), .val (.long j2), .second, .val (.int p3), .val (.int p4), .val (.int p5), .val (.int (1 : Int32)), .val (.int nn), .val (.int c0), .val (.int c1), .val (.int c2), .val (.ref r_169), .val (.ref r_170), .val (.ref r_171), .val (.ref b172), .unset, .unset, .unset, .unset] [(.int p3), (.ref r_171), (.ref b175), (.ref b175)]))
    refine Go.step (fun _ k => XS.iload X_175.here hx rfl (hb hby at_122) rfl  k) ?_
    show Go p e below _ (T_175.setTop (mkF m 124 #[.val (.int p0), .val (.int p1), .val (.long j2), .second, .val (.int p3), .val (.int p4), .val (.int p5), .val (.int (1 : Int32)), .val (.int nn), .val (.int c0), .val (.int c1), .val (.int c2), .val (.ref r_169), .val (.ref r_170), .val (.ref r_171), .val (.ref b172), .unset, .unset, .unset, .unset] [(.int p4), (.int p3), (.ref r_171), (.ref b175), (.ref b175)]))
    have f176 : Str Z T_171.heap.size h_175 r_171 ([(((j2.toUInt64 >>> ((32 : Int32) &&& 0x3f).toInt64.toUInt64).toInt64) &&& (255 : Int64)).toInt32] : List Int32) := (((u1_171.ext E_172).keep K_174 (allS (Nat.le_trans (Nat.le_refl _) ge_172) all0)).ext E_175)
    obtain ⟨v_177, T_177, L_177, X_177, hQ_177, hS_177, hZ_177, hown_177, C_177, st_177⟩ := goCW X_175 hx hZ_174 (y := ({ cls := "com/example/stubwright/stubwright/SourcePosition", name := "<init>", desc := "(Ljava/lang/String;II)V" } : Jvm.MethodName)) hown_174 hS_174 (Nat.le_trans (Nat.le_refl _) le_175) rfl (wd_52 hw) (wd_53 hw) (wd_54 hw) (by decide) (backOfSH (W := 1) (rm_initSP l Z a0 hw zc kd0 kd1 kd2 kd3 kd4 kd5 kd6 kd7 kd8 kd9 kd10 kd11 kd12 kd13 kd14 kd15 kd16 kd17 (b175) (r_171) (([(((j2.toUInt64 >>> ((32 : Int32) &&& 0x3f).toInt64.toUInt64).toInt64) &&& (255 : Int64)).toInt32] : List Int32)) (p3) (p4) h_175 n0 (Nat.le_trans Z0 KP_175.1) A_175 g_b175 (f176.mono (Nat.le_trans le_172 (Nat.le_trans le_174 le_175))) F_175_65 F_175_67 F_175_69 hSt O_175) hZ_174 (wd_54 hw) (wd_51 hw) (by decide) (by decide) hEL C_175.1) e_175 (g := (mkF m 124 #[.val (.int p0), .val (.int p1), .val (.long j2), .second, .val (.int p3), .val (.int p4), .val (.int p5), .val (.int (1 : Int32)), .val (.int nn), .val (.int c0), .val (.int c1), .val (.int c2), .val (.ref r_169), .val (.ref r_170), .val (.ref r_171), .val (.ref b172), .unset, .unset, .unset, .unset] [(.int p4), (.int p3), (.ref r_171), (.ref b175), (.ref b175)])) rfl (by rw [hml]; rfl) (a := b175) (argsL := [(.ref r_171), (.int p3), (.int p4)]) (rest := [(.ref b175)]) rfl (lenOf pd_9 rfl) rfl (by show 2 * 0 + _ ≤ _; exact Nat.le_of_eq rfl) (hb hby at_124) (by decide) (by decide)
    obtain ⟨rfl, Nq_177, K_177⟩ := hQ_177
    have N_177 := Fr.app N_174 Nq_177
    have CR_177 := CHr.trans CR_175 C_177
    have le_177 : h_175.size ≤ T_177.heap.size := K_177.1
    have KP_177 := KP_175.trans K_177 (allS (Or.inr sz_b175) all0)
    have O_177 := O_175.keep K_177 (allS g_b175 all0)
    refine Go.step st_177 ?_
    show Go p e below _ (T_177.setTop (mkF m 127 #[.val (.int p0), .val (.int p1), .val (.long j2), .second, .val (.int p3), .val (.int p4), .val (.int p5), .val (.int (1 : Int32)), .val (.int nn), .val (.int c0), .val (.int c1), .val (.int c2), .val (.ref r_169), .val (.ref r_170), .val (.ref r_171), .val (.ref b172), .unset, .unset, .unset, .unset] [(.ref b175)]))
    refine Go.step (fun _ k => XS.astore X_177.here hx rfl (hb hby at_127) rfl rfl (l' := #[.val (.int p0), .val (.int p1), .val (.long j2), .second, .val (.int p3), .val (.int p4), .val (.int p5), .val (.int (1 : Int32)), .val (.int nn), .val (.int c0), .val (.int c1), .val (.int c2), .val (.ref r_169), .val (.ref r_170), .val (.ref r_171), .val (.ref b172), .val (.ref b175), .unset, .unset, .unset]) rfl k) ?_
    show Go p e below _ (T_177.setTop (mkF m 129 #[.val (.int p0), .val (.int p1), .val (.long j2), .second, .val (.int p3), .val (.int p4), .val (.int p5), .val (.int (1 : Int32)), .val (.int nn), .val (.int c0), .val (.int c1), .val (.int c2), .val (.ref r_169), .val (.ref r_170), .val (.ref r_171), .val (.ref b172), .val (.ref b175), .unset, .unset, .unset] []))
    refine Go.step (fun _ k => XS.iload X_177.here hx rfl (hb hby at_129) rfl  k) ?_
    show Go p e below _ (T_177.setTop (mkF m 131 #[.val (.int p0), .val (.int p1), .val (.long j2), .second, .val (.int p3), .val (.int p4), .val (.int p5), .val (.int (1 : Int32)), .val (.int nn), .val (.int c0), .val (.int c1), .val (.int c2), .val (.ref r_169), .val (.ref r_170), .val (.ref r_171), .val (.ref b172), .val (.ref b175), .unset, .unset, .unset] [(.int (1 : Int32))]))
    refine Go.step (fun _ k => XS.ifNo X_177.here hx rfl (hb hby at_131) rfl ((if0 _ _).trans (feq ((by decide) : ¬ ((1 : Int32) = (0 : Int32)))).1) k) ?_
    show Go p e below _ (T_177.setTop (mkF m 134 #[.val (.int p0), .val (.int p1), .val (.long j2), .second, .val (.int p3), .val (.int p4), .val (.int p5), .val (.int (1 : Int32)), .val (.int nn), .val (.int c0), .val (.int c1), .val (.int c2), .val (.ref r_169), .val (.ref r_170), .val (.ref r_171), .val (.ref b172), .val (.ref b175), .unset, .unset, .unset] []))
    obtain ⟨T_178, X_178, e_178, st_178⟩ := getS2 X_177 hx hZ_177 hown_177 (host := "") (Or.inl (wd_70 hw)) Via.refl rfl (S_kd0.ext O_177.2) (g := (mkF m 134 #[.val (.int p0), .val (.int p1), .val (.long j2), .second, .val (.int p3), .val (.int p4), .val (.int p5), .val (.int (1 : Int32)), .val (.int nn), .val (.int c0), .val (.int c1), .val (.int c2), .val (.ref r_169), .val (.ref r_170), .val (.ref r_171), .val (.ref b172), .val (.ref b175), .unset, .unset, .unset] [])) rfl (hb hby at_134)
    refine Go.step st_178 ?_
    show Go p e below _ (T_178.setTop (mkF m 137 #[.val (.int p0), .val (.int p1), .val (.long j2), .second, .val (.int p3), .val (.int p4), .val (.int p5), .val (.int (1 : Int32)), .val (.int nn), .val (.int c0), .val (.int c1), .val (.int c2), .val (.ref r_169), .val (.ref r_170), .val (.ref r_171), .val (.ref b172), .val (.ref b175), .unset, .unset, .unset] [(.ref kd0)]))
    refine Go.step (fun _ k => XS.goto X_178.here hx rfl (pc0 := 137) (pc' := 144) rfl (hb hby at_137) (by decide) (by decide) k) ?_
    show Go p e below _ (T_178.setTop (mkF m 144 #[.val (.int p0), .val (.int p1), .val (.long j2), .second, .val (.int p3), .val (.int p4), .val (.int p5), .val (.int (1 : Int32)), .val (.int nn), .val (.int c0), .val (.int c1), .val (.int c2), .val (.ref r_169), .val (.ref r_170), .val (.ref r_171), .val (.ref b172), .val (.ref b175), .unset, .unset, .unset] [(.ref kd0)]))
    refine Go.step (fun _ k => XS.astore X_178.here hx rfl (hb hby at_144) rfl rfl (l' := #[.val (.int p0), .val (.int p1), .val (.long j2), .second, .val (.int p3), .val (.int p4), .val (.int p5), .val (.int (1 : Int32)), .val (.int nn), .val (.int c0), .val (.int c1), .val (.int c2), .val (.ref r_169), .val (.ref r_170), .val (.ref r_171), .val (.ref b172), .val (.ref b175), .val (.ref kd0), .unset, .unset]) rfl k) ?_
    show Go p e below _ (T_178.setTop (mkF m 146 #[.val (.int p0), .val (.int p1), .val (.long j2), .second, .val (.int p3), .val (.int p4), .val (.int p5), .val (.int (1 : Int32)), .val (.int nn), .val (.int c0), .val (.int c1), .val (.int c2), .val (.ref r_169), .val (.ref r_170), .val (.ref r_171), .val (.ref b172), .val (.ref b175), .val (.ref kd0), .unset, .unset] []))
    refine Go.step (fun _ k => XS.iload X_178.here hx rfl (hb hby at_146) rfl  k) ?_
    show Go p e below _ (T_178.setTop (mkF m 148 #[.val (.int p0), .val (.int p1), .val (.long j2), .second, .val (.int p3), .val (.int p4), .val (.int p5), .val (.int (1 : Int32)), .val (.int nn), .val (.int c0), .val (.int c1), .val (.int c2), .val (.ref r_169), .val (.ref r_170), .val (.ref r_171), .val (.ref b172), .val (.ref b175), .val (.ref kd0), .unset, .unset] [(.int (1 : Int32))]))
    refine Go.step (fun _ k => XS.ifNo X_178.here hx rfl (hb hby at_148) rfl ((if0 _ _).trans (feq ((by decide) : ¬ ((1 : Int32) = (0 : Int32)))).1) k) ?_
    show Go p e below _ (T_178.setTop (mkF m 151 #[.val (.int p0), .val (.int p1), .val (.long j2), .second, .val (.int p3), .val (.int p4), .val (.int p5), .val (.int (1 : Int32)), .val (.int nn), .val (.int c0), .val (.int c1), .val (.int c2), .val (.ref r_169), .val (.ref r_170), .val (.ref r_171), .val (.ref b172), .val (.ref b175), .val (.ref kd0), .unset, .unset] []))
    refine Go.step (fun _ k => XS.aload X_178.here hx rfl (hb hby at_151) rfl rfl k) ?_
    show Go p e below _ (T_178.setTop (mkF m 153 #[.val (.int p0), .val (.int p1), .val (.long j2), .second, .val (.int p3), .val (.int p4), .val (.int p5), .val (.int (1 : Int32)), .val (.int nn), .val (.int c0), .val (.int c1), .val (.int c2), .val (.ref r_169), .val (.ref r_170), .val (.ref r_171), .val (.ref b172), .val (.ref b175), .val (.ref kd0), .unset, .unset] [(.ref r_169)]))
    refine Go.step (fun _ k => XS.aload X_178.here hx rfl (hb hby at_153) rfl rfl k) ?_
    show Go p e below _ (T_178.setTop (mkF m 155 #[.val (.int p0), .val (.int p1), .val (.long j2), .second, .val (.int p3), .val (.int p4), .val (.int p5), .val (.int (1 : Int32)), .val (.int nn), .val (.int c0), .val (.int c1), .val (.int c2), .val (.ref r_169), .val (.ref r_170), .val (.ref r_171), .val (.ref b172), .val (.ref b175), .val (.ref kd0), .unset, .unset] [(.ref b172), (.ref r_169)]))
    obtain ⟨v_179, T_179, L_179, X_179, hQ_179, st_179⟩ := goS X_178 hx hZ_177 (y := ({ cls := "com/example/stubwright/stubwright/idl/Token", name := "escapedIdentifier", desc := "(Ljava/lang/String;Lcom/example/stubwright/stubwright/SourcePosition;)Lcom/example/stubwright/stubwright/idl/Token;" } : Jvm.MethodName)) hown_177 (wd_73 hw) (wd_74 hw) (wd_75 hw) (wd_76 hw) (by decide) (backOf (W := 0) (rm_escId l Z a0 hw zc kd0 kd1 kd2 kd3 kd4 kd5 kd6 kd7 kd8 kd9 kd10 kd11 kd12 kd13 kd14 kd15 kd16 kd17 (r_169) (b172) T_177.heap n0 (Nat.le_trans Z0 KP_177.1) hSt O_177) hZ_177 (wd_76 hw) (wd_75 hw) (by decide) (by decide)) e_178 (g := (mkF m 155 #[.val (.int p0), .val (.int p1), .val (.long j2), .second, .val (.int p3), .val (.int p4), .val (.int p5), .val (.int (1 : Int32)), .val (.int nn), .val (.int c0), .val (.int c1), .val (.int c2), .val (.ref r_169), .val (.ref r_170), .val (.ref r_171), .val (.ref b172), .val (.ref b175), .val (.ref kd0), .unset, .unset] [(.ref b172), (.ref r_169)])) rfl (by rw [hml]; rfl) (argsL := [(.ref r_169), (.ref b172)]) (rest := []) rfl (lenOf pd_18 rfl) rfl (by show 2 * 0 + _ ≤ _; exact Nat.le_of_eq rfl) (hb hby at_155) (by decide) (by decide)
    obtain ⟨r_179, rfl, Nq_179, K_179, u0_179, u1_179, u2_179, u3_179, u4_179, u5_179⟩ := hQ_179
    have N_179 := Fr.app N_177 Nq_179
    have C_179 := CHr.keep K_179 sf0 C_177.1
    have CR_179 := CHr.trans CR_177 C_179
    have le_179 : T_177.heap.size ≤ T_179.heap.size := K_179.1
    have KP_179 := KP_177.trans K_179 all0
    have O_179 := O_177.keep K_179 all0
    have sz_r_179 : h0.size ≤ r_179 := Nat.le_trans (Nat.le_trans le_169 (Nat.le_trans le_170 (Nat.le_trans le_171 (Nat.le_trans le_172 (Nat.le_trans le_174 (Nat.le_trans le_175 le_177)))))) u0_179
    have g_r_179 : n0 ≤ r_179 := Nat.le_trans Z0 sz_r_179
    refine Go.step st_179 ?_
    show Go p e below _ (T_179.setTop (mkF m 158 #[.val (.int p0), .val (.int p1), .val (.long j2), .second, .val (.int p3), .val (.int p4), .val (.int p5), .val (.int (1 : Int32)), .val (.int nn), .val (.int c0), .val (.int c1), .val (.int c2), .val (.ref r_169), .val (.ref r_170), .val (.ref r_171), .val (.ref b172), .val (.ref b175), .val (.ref kd0), .unset, .unset] [(.ref r_179)]))
    refine Go.step (fun _ k => XS.goto X_179.here hx rfl (pc0 := 158) (pc' := 174) rfl (hb hby at_158) (by decide) (by decide) k) ?_
    show Go p e below _ (T_179.setTop (mkF m 174 #[.val (.int p0), .val (.int p1), .val (.long j2), .second, .val (.int p3), .val (.int p4), .val (.int p5), .val (.int (1 : Int32)), .val (.int nn), .val (.int c0), .val (.int c1), .val (.int c2), .val (.ref r_169), .val (.ref r_170), .val (.ref r_171), .val (.ref b172), .val (.ref b175), .val (.ref kd0), .unset, .unset] [(.ref r_179)]))
    refine Go.step (fun _ k => XS.astore X_179.here hx rfl (hb hby at_174) rfl rfl (l' := #[.val (.int p0), .val (.int p1), .val (.long j2), .second, .val (.int p3), .val (.int p4), .val (.int p5), .val (.int (1 : Int32)), .val (.int nn), .val (.int c0), .val (.int c1), .val (.int c2), .val (.ref r_169), .val (.ref r_170), .val (.ref r_171), .val (.ref b172), .val (.ref b175), .val (.ref kd0), .val (.ref r_179), .unset]) rfl k) ?_
    show Go p e below _ (T_179.setTop (mkF m 176 #[.val (.int p0), .val (.int p1), .val (.long j2), .second, .val (.int p3), .val (.int p4), .val (.int p5), .val (.int (1 : Int32)), .val (.int nn), .val (.int c0), .val (.int c1), .val (.int c2), .val (.ref r_169), .val (.ref r_170), .val (.ref r_171), .val (.ref b172), .val (.ref b175), .val (.ref kd0), .val (.ref r_179), .unset] []))
    refine Go.step (fun _ k => XS.aload X_179.here hx rfl (hb hby at_176) rfl rfl k) ?_
    show Go p e below _ (T_179.setTop (mkF m 178 #[.val (.int p0), .val (.int p1), .val (.long j2), .second, .val (.int p3), .val (.int p4), .val (.int p5), .val (.int (1 : Int32)), .val (.int nn), .val (.int c0), .val (.int c1), .val (.int c2), .val (.ref r_169), .val (.ref r_170), .val (.ref r_171), .val (.ref b172), .val (.ref b175), .val (.ref kd0), .val (.ref r_179), .unset] [(.ref r_179)]))
    refine Go.step (fun _ k => XS.aload X_179.here hx rfl (hb hby at_178) rfl rfl k) ?_
    show Go p e below _ (T_179.setTop (mkF m 180 #[.val (.int p0), .val (.int p1), .val (.long j2), .second, .val (.int p3), .val (.int p4), .val (.int p5), .val (.int (1 : Int32)), .val (.int nn), .val (.int c0), .val (.int c1), .val (.int c2), .val (.ref r_169), .val (.ref r_170), .val (.ref r_171), .val (.ref b172), .val (.ref b175), .val (.ref kd0), .val (.ref r_179), .unset] [(.ref b175), (.ref r_179)]))
    obtain ⟨v_180, T_180, L_180, X_180, hQ_180, st_180⟩ := goV X_179 hx hZ_177 (y := ({ cls := "com/example/stubwright/stubwright/idl/Token", name := "movedTo", desc := "(Lcom/example/stubwright/stubwright/SourcePosition;)Lcom/example/stubwright/stubwright/idl/Token;" } : Jvm.MethodName)) (z := ({ cls := "com/example/stubwright/stubwright/idl/Token", name := "movedTo", desc := "(Lcom/example/stubwright/stubwright/SourcePosition;)Lcom/example/stubwright/stubwright/idl/Token;" } : Jvm.MethodName)) hown_177 (wd_92 hw) (wd_93 hw) (notFace_of_selects (args := #[]) (mvT hZ_177 (wd_95 hw))) (wd_95 hw) (wd_94 hw) (by decide) (backOf (W := 0) (rm_movedTo l Z a0 hw zc kd0 kd1 kd2 kd3 kd4 kd5 kd6 kd7 kd8 kd9 kd10 kd11 kd12 kd13 kd14 kd15 kd16 kd17 (r_179) (kd0) (r_169) ((1 : Int32)) (b175) T_179.heap n0 (Nat.le_trans Z0 KP_179.1) u2_179 u3_179 u5_179 (by decide) hSt O_179) hZ_177 (wd_96 hw) (wd_75 hw) (by decide) (by decide)) rfl u1_179 (g := (mkF m 180 #[.val (.int p0), .val (.int p1), .val (.long j2), .second, .val (.int p3), .val (.int p4), .val (.int p5), .val (.int (1 : Int32)), .val (.int nn), .val (.int c0), .val (.int c1), .val (.int c2), .val (.ref r_169), .val (.ref r_170), .val (.ref r_171), .val (.ref b172), .val (.ref b175), .val (.ref kd0), .val (.ref r_179), .unset] [(.ref b175), (.ref r_179)])) rfl (by rw [hml]; rfl) (argsL := [(.ref b175)]) (rest := []) rfl (lenOf pd_12 rfl) rfl (by show 2 * 0 + _ ≤ _; exact Nat.le_of_eq rfl) (hb hby at_180) (by decide) (by decide)
    obtain ⟨r_180, rfl, Nq_180, K_180, u0_180, u1_180, u2_180, u3_180, u4_180, u5_180⟩ := hQ_180
    have N_180 := Fr.app N_179 Nq_180
    have C_180 := CHr.keep K_180 sf0 C_179.1
    have CR_180 := CHr.trans CR_179 C_180
    have le_180 : T_179.heap.size ≤ T_180.heap.size := K_180.1
    have KP_180 := KP_179.trans K_180 all0
    have O_180 := O_179.keep K_180 all0
    have sz_r_180 : h0.size ≤ r_180 := Nat.le_trans (Nat.le_trans le_169 (Nat.le_trans le_170 (Nat.le_trans le_171 (Nat.le_trans le_172 (Nat.le_trans le_174 (Nat.le_trans le_175 (Nat.le_trans le_177 le_179))))))) u0_180
    have g_r_180 : n0 ≤ r_180 := Nat.le_trans Z0 sz_r_180
    refine Go.step st_180 ?_
    show Go p e below _ (T_180.setTop (mkF m 183 #[.val (.int p0), .val (.int p1), .val (.long j2), .second, .val (.int p3), .val (.int p4), .val (.int p5), .val (.int (1 : Int32)), .val (.int nn), .val (.int c0), .val (.int c1), .val (.int c2), .val (.ref r_169), .val (.ref r_170), .val (.ref r_171), .val (.ref b172), .val (.ref b175), .val (.ref kd0), .val (.ref r_179), .unset] [(.ref r_180)]))
    refine Go.step (fun _ k => XS.astore X_180.here hx rfl (hb hby at_183) rfl rfl (l' := #[.val (.int p0), .val (.int p1), .val (.long j2), .second, .val (.int p3), .val (.int p4), .val (.int p5), .val (.int (1 : Int32)), .val (.int nn), .val (.int c0), .val (.int c1), .val (.int c2), .val (.ref r_169), .val (.ref r_170), .val (.ref r_171), .val (.ref b172), .val (.ref b175), .val (.ref kd0), .val (.ref r_179), .val (.ref r_180)]) rfl k) ?_
    show Go p e below _ (T_180.setTop (mkF m 185 #[.val (.int p0), .val (.int p1), .val (.long j2), .second, .val (.int p3), .val (.int p4), .val (.int p5), .val (.int (1 : Int32)), .val (.int nn), .val (.int c0), .val (.int c1), .val (.int c2), .val (.ref r_169), .val (.ref r_170), .val (.ref r_171), .val (.ref b172), .val (.ref b175), .val (.ref kd0), .val (.ref r_179), .val (.ref r_180)] []))
    refine Go.step (fun _ k => XS.aload X_180.here hx rfl (hb hby at_185) rfl rfl k) ?_
    show Go p e below _ (T_180.setTop (mkF m 187 #[.val (.int p0), .val (.int p1), .val (.long j2), .second, .val (.int p3), .val (.int p4), .val (.int p5), .val (.int (1 : Int32)), .val (.int nn), .val (.int c0), .val (.int c1), .val (.int c2), .val (.ref r_169), .val (.ref r_170), .val (.ref r_171), .val (.ref b172), .val (.ref b175), .val (.ref kd0), .val (.ref r_179), .val (.ref r_180)] [(.ref r_180)]))
    obtain ⟨v_181, T_181, L_181, X_181, hQ_181, st_181⟩ := goV X_180 hx hZ_177 (y := ({ cls := "com/example/stubwright/stubwright/idl/Token", name := "kind", desc := "()Lcom/example/stubwright/stubwright/idl/Token$Kind;" } : Jvm.MethodName)) (z := ({ cls := "com/example/stubwright/stubwright/idl/Token", name := "kind", desc := "()Lcom/example/stubwright/stubwright/idl/Token$Kind;" } : Jvm.MethodName)) hown_177 (wd_97 hw) (wd_98 hw) (notFace_of_selects (args := #[]) (mvT hZ_177 (wd_100 hw))) (wd_100 hw) (wd_99 hw) (by decide) (backOf (W := 0) (rm_kind l Z a0 hw zc kd0 kd1 kd2 kd3 kd4 kd5 kd6 kd7 kd8 kd9 kd10 kd11 kd12 kd13 kd14 kd15 kd16 kd17 (r_180) (kd0) T_180.heap n0 (Nat.le_trans Z0 KP_180.1) u2_180 hSt O_180) hZ_177 (wd_101 hw) (wd_75 hw) (by decide) (by decide)) rfl u1_180 (g := (mkF m 187 #[.val (.int p0), .val (.int p1), .val (.long j2), .second, .val (.int p3), .val (.int p4), .val (.int p5), .val (.int (1 : Int32)), .val (.int nn), .val (.int c0), .val (.int c1), .val (.int c2), .val (.ref r_169), .val (.ref r_170), .val (.ref r_171), .val (.ref b172), .val (.ref b175), .val (.ref kd0), .val (.ref r_179), .val (.ref r_180)] [(.ref r_180)])) rfl (by rw [hml]; rfl) (argsL := []) (rest := []) rfl (lenOf pd_13 rfl) rfl (by show 2 * 0 + _ ≤ _; exact Nat.le_of_eq rfl) (hb hby at_187) (by decide) (by decide)
    obtain ⟨rfl, Nq_181, e_181⟩ := hQ_181
    have N_181 := Fr.app N_180 Nq_181
    refine Go.step st_181 ?_
    show Go p e below _ (T_181.setTop (mkF m 190 #[.val (.int p0), .val (.int p1), .val (.long j2), .second, .val (.int p3), .val (.int p4), .val (.int p5), .val (.int (1 : Int32)), .val (.int nn), .val (.int c0), .val (.int c1), .val (.int c2), .val (.ref r_169), .val (.ref r_170), .val (.ref r_171), .val (.ref b172), .val (.ref b175), .val (.ref kd0), .val (.ref r_179), .val (.ref r_180)] [(.ref kd0)]))
    refine Go.step (fun _ k => XS.aload X_181.here hx rfl (hb hby at_190) rfl rfl k) ?_
    show Go p e below _ (T_181.setTop (mkF m 192 #[.val (.int p0), .val (.int p1), .val (.long j2), .second, .val (.int p3), .val (.int p4), .val (.int p5), .val (.int (1 : Int32)), .val (.int nn), .val (.int c0), .val (.int c1), .val (.int c2), .val (.ref r_169), .val (.ref r_170), .val (.ref r_171), .val (.ref b172), .val (.ref b175), .val (.ref kd0), .val (.ref r_179), .val (.ref r_180)] [(.ref kd0), (.ref kd0)]))
    refine Go.step (fun _ k => Jvm.RoadKit.acmp (g := (mkF m 192 #[.val (.int p0), .val (.int p1), .val (.long j2), .second, .val (.int p3), .val (.int p4), .val (.int p5), .val (.int (1 : Int32)), .val (.int nn), .val (.int c0), .val (.int c1), .val (.int c2), .val (.ref r_169), .val (.ref r_170), .val (.ref r_171), .val (.ref b172), .val (.ref b175), .val (.ref kd0), .val (.ref r_179), .val (.ref r_180)] [(.ref kd0), (.ref kd0)])) X_181 hx rfl rfl rfl (pc0 := 192) (pc' := 195) (same := true) rfl (hb hby at_192) rfl (decide_eq_true rfl) (by decide) (by decide) k) ?_
    show Go p e below _ (T_181.setTop (mkF m 195 #[.val (.int p0), .val (.int p1), .val (.long j2), .second, .val (.int p3), .val (.int p4), .val (.int p5), .val (.int (1 : Int32)), .val (.int nn), .val (.int c0), .val (.int c1), .val (.int c2), .val (.ref r_169), .val (.ref r_170), .val (.ref r_171), .val (.ref b172), .val (.ref b175), .val (.ref kd0), .val (.ref r_179), .val (.ref r_180)] []))
    refine Go.step (fun _ k => XS.aload X_181.here hx rfl (hb hby at_195) rfl rfl k) ?_
    show Go p e below _ (T_181.setTop (mkF m 197 #[.val (.int p0), .val (.int p1), .val (.long j2), .second, .val (.int p3), .val (.int p4), .val (.int p5), .val (.int (1 : Int32)), .val (.int nn), .val (.int c0), .val (.int c1), .val (.int c2), .val (.ref r_169), .val (.ref r_170), .val (.ref r_171), .val (.ref b172), .val (.ref b175), .val (.ref kd0), .val (.ref r_179), .val (.ref r_180)] [(.ref r_180)]))
    obtain ⟨v_182, T_182, L_182, X_182, hQ_182, st_182⟩ := goV X_181 hx hZ_177 (y := ({ cls := "com/example/stubwright/stubwright/idl/Token", name := "text", desc := "()Ljava/lang/String;" } : Jvm.MethodName)) (z := ({ cls := "com/example/stubwright/stubwright/idl/Token", name := "text", desc := "()Ljava/lang/String;" } : Jvm.MethodName)) hown_177 (wd_102 hw) (wd_103 hw) (notFace_of_selects (args := #[]) (mvT hZ_177 (wd_105 hw))) (wd_105 hw) (wd_104 hw) (by decide) (backOf (W := 0) (rm_text l Z a0 hw zc kd0 kd1 kd2 kd3 kd4 kd5 kd6 kd7 kd8 kd9 kd10 kd11 kd12 kd13 kd14 kd15 kd16 kd17 (r_180) (r_169) T_180.heap n0 (Nat.le_trans Z0 KP_180.1) u3_180 hSt O_180) hZ_177 (wd_106 hw) (wd_75 hw) (by decide) (by decide)) e_181 u1_180 (g := (mkF m 197 #[.val (.int p0), .val (.int p1), .val (.long j2), .second, .val (.int p3), .val (.int p4), .val (.int p5), .val (.int (1 : Int32)), .val (.int nn), .val (.int c0), .val (.int c1), .val (.int c2), .val (.ref r_169), .val (.ref r_170), .val (.ref r_171), .val (.ref b172), .val (.ref b175), .val (.ref kd0), .val (.ref r_179), .val (.ref r_180)] [(.ref r_180)])) rfl (by rw [hml]; rfl) (argsL := []) (rest := []) rfl (lenOf pd_14 rfl) rfl (by show 2 * 0 + _ ≤ _; exact Nat.le_of_eq rfl) (hb hby at_197) (by decide) (by decide)
    obtain ⟨rfl, Nq_182, e_182⟩ := hQ_182
    have N_182 := Fr.app N_181 Nq_182
    refine Go.step st_182 ?_
    show Go p e below _ (T_182.setTop (mkF m 200 #[.val (.int p0), .val (.int p1), .val (.long j2), .second, .val (.int p3), .val (.int p4), .val (.int p5), .val (.int (1 : Int32)), .val (.int nn), .val (.int c0), .val (.int c1), .val (.int c2), .val (.ref r_169), .val (.ref r_170), .val (.ref r_171), .val (.ref b172), .val (.ref b175), .val (.ref kd0), .val (.ref r_179), .val (.ref r_180)] [(.ref r_169)]))
    refine Go.step (fun _ k => XS.aload X_182.here hx rfl (hb hby at_200) rfl rfl k) ?_
    show Go p e below _ (T_182.setTop (mkF m 202 #[.val (.int p0), .val (.int p1), .val (.long j2), .second, .val (.int p3), .val (.int p4), .val (.int p5), .val (.int (1 : Int32)), .val (.int nn), .val (.int c0), .val (.int c1), .val (.int c2), .val (.ref r_169), .val (.ref r_170), .val (.ref r_171), .val (.ref b172), .val (.ref b175), .val (.ref kd0), .val (.ref r_179), .val (.ref r_180)] [(.ref r_169), (.ref r_169)]))
    have f184 : Str Z T_169.heap.size T_180.heap r_169 (mkL nn c0 c1 c2) := ((((((((u1_169.keep K_170 all0).keep K_171 all0).ext E_172).keep K_174 (allS (Nat.le_trans (Nat.le_trans le_170 le_171) ge_172) all0)).ext E_175).keep K_177 (allS (Nat.le_trans (Nat.le_trans le_170 (Nat.le_trans le_171 (Nat.le_trans le_172 le_174))) ge_175) all0)).keep K_179 all0).keep K_180 all0)
    obtain ⟨v_183, T_183, L_183, X_183, hQ_183, st_183⟩ := goV X_182 hx hZ_177 (y := ({ cls := "java/lang/String", name := "equals", desc := "(Ljava/lang/Object;)Z" } : Jvm.MethodName)) (z := ({ cls := "java/lang/String", name := "equals", desc := "(Ljava/lang/Object;)Z" } : Jvm.MethodName)) hown_177 (wd_107 hw) (wd_108 hw) (notFace_of_selects (args := #[]) (mvT hZ_177 (wd_110 hw))) (wd_110 hw) (wd_109 hw) (by decide) (backOf (W := 0) (rm_eqSelf l Z a0 hw zc kd0 kd1 kd2 kd3 kd4 kd5 kd6 kd7 kd8 kd9 kd10 kd11 kd12 kd13 kd14 kd15 kd16 kd17 (r_169) T_180.heap n0 (Nat.le_trans Z0 KP_180.1) hSt O_180) hZ_177 (wd_111 hw) (wd_7 hw) (by decide) (by decide)) e_182 f184.exa (g := (mkF m 202 #[.val (.int p0), .val (.int p1), .val (.long j2), .second, .val (.int p3), .val (.int p4), .val (.int p5), .val (.int (1 : Int32)), .val (.int nn), .val (.int c0), .val (.int c1), .val (.int c2), .val (.ref r_169), .val (.ref r_170), .val (.ref r_171), .val (.ref b172), .val (.ref b175), .val (.ref kd0), .val (.ref r_179), .val (.ref r_180)] [(.ref r_169), (.ref r_169)])) rfl (by rw [hml]; rfl) (argsL := [(.ref r_169)]) (rest := []) rfl (lenOf pd_15 rfl) rfl (by show 2 * 0 + _ ≤ _; exact Nat.le_of_eq rfl) (hb hby at_202) (by decide) (by decide)
    obtain ⟨rfl, Nq_183, e_183⟩ := hQ_183
    have N_183 := Fr.app N_182 Nq_183
    refine Go.step st_183 ?_
    show Go p e below _ (T_183.setTop (mkF m 205 #[.val (.int p0), .val (.int p1), .val (.long j2), .second, .val (.int p3), .val (.int p4), .val (.int p5), .val (.int (1 : Int32)), .val (.int nn), .val (.int c0), .val (.int c1), .val (.int c2), .val (.ref r_169), .val (.ref r_170), .val (.ref r_171), .val (.ref b172), .val (.ref b175), .val (.ref kd0), .val (.ref r_179), .val (.ref r_180)] [(.int (1 : Int32))]))
    refine Go.step (fun _ k => XS.ifNo X_183.here hx rfl (hb hby at_205) rfl ((if0 _ _).trans (feq ((by decide) : ¬ ((1 : Int32) = (0 : Int32)))).1) k) ?_
    show Go p e below _ (T_183.setTop (mkF m 208 #[.val (.int p0), .val (.int p1), .val (.long j2), .second, .val (.int p3), .val (.int p4), .val (.int p5), .val (.int (1 : Int32)), .val (.int nn), .val (.int c0), .val (.int c1), .val (.int c2), .val (.ref r_169), .val (.ref r_170), .val (.ref r_171), .val (.ref b172), .val (.ref b175), .val (.ref kd0), .val (.ref r_179), .val (.ref r_180)] []))
    refine Go.step (fun _ k => XS.aload X_183.here hx rfl (hb hby at_208) rfl rfl k) ?_
    show Go p e below _ (T_183.setTop (mkF m 210 #[.val (.int p0), .val (.int p1), .val (.long j2), .second, .val (.int p3), .val (.int p4), .val (.int p5), .val (.int (1 : Int32)), .val (.int nn), .val (.int c0), .val (.int c1), .val (.int c2), .val (.ref r_169), .val (.ref r_170), .val (.ref r_171), .val (.ref b172), .val (.ref b175), .val (.ref kd0), .val (.ref r_179), .val (.ref r_180)] [(.ref r_180)]))
    obtain ⟨v_185, T_185, L_185, X_185, hQ_185, st_185⟩ := goV X_183 hx hZ_177 (y := ({ cls := "com/example/stubwright/stubwright/idl/Token", name := "isEscaped", desc := "()Z" } : Jvm.MethodName)) (z := ({ cls := "com/example/stubwright/stubwright/idl/Token", name := "isEscaped", desc := "()Z" } : Jvm.MethodName)) hown_177 (wd_112 hw) (wd_113 hw) (notFace_of_selects (args := #[]) (mvT hZ_177 (wd_115 hw))) (wd_115 hw) (wd_114 hw) (by decide) (backOf (W := 0) (rm_isEsc l Z a0 hw zc kd0 kd1 kd2 kd3 kd4 kd5 kd6 kd7 kd8 kd9 kd10 kd11 kd12 kd13 kd14 kd15 kd16 kd17 (r_180) ((1 : Int32)) T_180.heap n0 (Nat.le_trans Z0 KP_180.1) u5_180 (by decide) hSt O_180) hZ_177 (wd_116 hw) (wd_75 hw) (by decide) (by decide)) e_183 u1_180 (g := (mkF m 210 #[.val (.int p0), .val (.int p1), .val (.long j2), .second, .val (.int p3), .val (.int p4), .val (.int p5), .val (.int (1 : Int32)), .val (.int nn), .val (.int c0), .val (.int c1), .val (.int c2), .val (.ref r_169), .val (.ref r_170), .val (.ref r_171), .val (.ref b172), .val (.ref b175), .val (.ref kd0), .val (.ref r_179), .val (.ref r_180)] [(.ref r_180)])) rfl (by rw [hml]; rfl) (argsL := []) (rest := []) rfl (lenOf pd_16 rfl) rfl (by show 2 * 0 + _ ≤ _; exact Nat.le_of_eq rfl) (hb hby at_210) (by decide) (by decide)
    obtain ⟨rfl, Nq_185, e_185⟩ := hQ_185
    have N_185 := Fr.app N_183 Nq_185
    refine Go.step st_185 ?_
    show Go p e below _ (T_185.setTop (mkF m 213 #[.val (.int p0), .val (.int p1), .val (.long j2), .second, .val (.int p3), .val (.int p4), .val (.int p5), .val (.int (1 : Int32)), .val (.int nn), .val (.int c0), .val (.int c1), .val (.int c2), .val (.ref r_169), .val (.ref r_170), .val (.ref r_171), .val (.ref b172), .val (.ref b175), .val (.ref kd0), .val (.ref r_179), .val (.ref r_180)] [(.int (1 : Int32))]))
    refine Go.step (fun _ k => XS.iload X_185.here hx rfl (hb hby at_213) rfl  k) ?_
    show Go p e below _ (T_185.setTop (mkF m 215 #[.val (.int p0), .val (.int p1), .val (.long j2), .second, .val (.int p3), .val (.int p4), .val (.int p5), .val (.int (1 : Int32)), .val (.int nn), .val (.int c0), .val (.int c1), .val (.int c2), .val (.ref r_169), .val (.ref r_170), .val (.ref r_171), .val (.ref b172), .val (.ref b175), .val (.ref kd0), .val (.ref r_179), .val (.ref r_180)] [(.int (1 : Int32)), (.int (1 : Int32))]))
    refine Go.step (fun _ k => XS.icmpNo X_185.here hx rfl (hb hby at_215) rfl (teq ((by decide) : (1 : Int32) = (1 : Int32))).2 k) ?_
    show Go p e below _ (T_185.setTop (mkF m 218 #[.val (.int p0), .val (.int p1), .val (.long j2), .second, .val (.int p3), .val (.int p4), .val (.int p5), .val (.int (1 : Int32)), .val (.int nn), .val (.int c0), .val (.int c1), .val (.int c2), .val (.ref r_169), .val (.ref r_170), .val (.ref r_171), .val (.ref b172), .val (.ref b175), .val (.ref kd0), .val (.ref r_179), .val (.ref r_180)] []))
    refine Go.step (fun _ k => XS.aload X_185.here hx rfl (hb hby at_218) rfl rfl k) ?_
    show Go p e below _ (T_185.setTop (mkF m 220 #[.val (.int p0), .val (.int p1), .val (.long j2), .second, .val (.int p3), .val (.int p4), .val (.int p5), .val (.int (1 : Int32)), .val (.int nn), .val (.int c0), .val (.int c1), .val (.int c2), .val (.ref r_169), .val (.ref r_170), .val (.ref r_171), .val (.ref b172), .val (.ref b175), .val (.ref kd0), .val (.ref r_179), .val (.ref r_180)] [(.ref r_180)]))
    obtain ⟨v_186, T_186, L_186, X_186, hQ_186, st_186⟩ := goV X_185 hx hZ_177 (y := ({ cls := "com/example/stubwright/stubwright/idl/Token", name := "position", desc := "()Lcom/example/stubwright/stubwright/SourcePosition;" } : Jvm.MethodName)) (z := ({ cls := "com/example/stubwright/stubwright/idl/Token", name := "position", desc := "()Lcom/example/stubwright/stubwright/SourcePosition;" } : Jvm.MethodName)) hown_177 (wd_117 hw) (wd_118 hw) (notFace_of_selects (args := #[]) (mvT hZ_177 (wd_120 hw))) (wd_120 hw) (wd_119 hw) (by decide) (backOf (W := 0) (rm_position l Z a0 hw zc kd0 kd1 kd2 kd3 kd4 kd5 kd6 kd7 kd8 kd9 kd10 kd11 kd12 kd13 kd14 kd15 kd16 kd17 (r_180) (b175) T_180.heap n0 (Nat.le_trans Z0 KP_180.1) u4_180 hSt O_180) hZ_177 (wd_121 hw) (wd_75 hw) (by decide) (by decide)) e_185 u1_180 (g := (mkF m 220 #[.val (.int p0), .val (.int p1), .val (.long j2), .second, .val (.int p3), .val (.int p4), .val (.int p5), .val (.int (1 : Int32)), .val (.int nn), .val (.int c0), .val (.int c1), .val (.int c2), .val (.ref r_169), .val (.ref r_170), .val (.ref r_171), .val (.ref b172), .val (.ref b175), .val (.ref kd0), .val (.ref r_179), .val (.ref r_180)] [(.ref r_180)])) rfl (by rw [hml]; rfl) (argsL := []) (rest := []) rfl (lenOf pd_17 rfl) rfl (by show 2 * 0 + _ ≤ _; exact Nat.le_of_eq rfl) (hb hby at_220) (by decide) (by decide)
    obtain ⟨rfl, Nq_186, e_186⟩ := hQ_186
    have N_186 := Fr.app N_185 Nq_186
    refine Go.step st_186 ?_
    show Go p e below _ (T_186.setTop (mkF m 223 #[.val (.int p0), .val (.int p1), .val (.long j2), .second, .val (.int p3), .val (.int p4), .val (.int p5), .val (.int (1 : Int32)), .val (.int nn), .val (.int c0), .val (.int c1), .val (.int c2), .val (.ref r_169), .val (.ref r_170), .val (.ref r_171), .val (.ref b172), .val (.ref b175), .val (.ref kd0), .val (.ref r_179), .val (.ref r_180)] [(.ref b175)]))
    refine Go.step (fun _ k => XS.aload X_186.here hx rfl (hb hby at_223) rfl rfl k) ?_
    show Go p e below _ (T_186.setTop (mkF m 225 #[.val (.int p0), .val (.int p1), .val (.long j2), .second, .val (.int p3), .val (.int p4), .val (.int p5), .val (.int (1 : Int32)), .val (.int nn), .val (.int c0), .val (.int c1), .val (.int c2), .val (.ref r_169), .val (.ref r_170), .val (.ref r_171), .val (.ref b172), .val (.ref b175), .val (.ref kd0), .val (.ref r_179), .val (.ref r_180)] [(.ref b175), (.ref b175)]))
    refine Go.step (fun _ k => Jvm.RoadKit.acmp (g := (mkF m 225 #[.val (.int p0), .val (.int p1), .val (.long j2), .second, .val (.int p3), .val (.int p4), .val (.int p5), .val (.int (1 : Int32)), .val (.int nn), .val (.int c0), .val (.int c1), .val (.int c2), .val (.ref r_169), .val (.ref r_170), .val (.ref r_171), .val (.ref b172), .val (.ref b175), .val (.ref kd0), .val (.ref r_179), .val (.ref r_180)] [(.ref b175), (.ref b175)])) X_186 hx rfl rfl rfl (pc0 := 225) (pc' := 228) (same := true) rfl (hb hby at_225) rfl (decide_eq_true rfl) (by decide) (by decide) k) ?_
    show Go p e below _ (T_186.setTop (mkF m 228 #[.val (.int p0), .val (.int p1), .val (.long j2), .second, .val (.int p3), .val (.int p4), .val (.int p5), .val (.int (1 : Int32)), .val (.int nn), .val (.int c0), .val (.int c1), .val (.int c2), .val (.ref r_169), .val (.ref r_170), .val (.ref r_171), .val (.ref b172), .val (.ref b175), .val (.ref kd0), .val (.ref r_179), .val (.ref r_180)] []))
    refine Go.step (fun _ k => XS.aload X_186.here hx rfl (hb hby at_228) rfl rfl k) ?_
    show Go p e below _ (T_186.setTop (mkF m 230 #[.val (.int p0), .val (.int p1), .val (.long j2), .second, .val (.int p3), .val (.int p4), .val (.int p5), .val (.int (1 : Int32)), .val (.int nn), .val (.int c0), .val (.int c1), .val (.int c2), .val (.ref r_169), .val (.ref r_170), .val (.ref r_171), .val (.ref b172), .val (.ref b175), .val (.ref kd0), .val (.ref r_179), .val (.ref r_180)] [(.ref r_179)]))
    have f187 : Fld Z T_180.heap r_179 "com/example/stubwright/stubwright/idl/Token" "position" "Lcom/example/stubwright/stubwright/SourcePosition;" (.ref b172) := (u4_179.keep K_180 nin0)
    have f189 : Exa Z T_180.heap r_179 "com/example/stubwright/stubwright/idl/Token" := (u1_179.keep K_180)
    obtain ⟨v_188, T_188, L_188, X_188, hQ_188, st_188⟩ := goV X_186 hx hZ_177 (y := ({ cls := "com/example/stubwright/stubwright/idl/Token", name := "position", desc := "()Lcom/example/stubwright/stubwright/SourcePosition;" } : Jvm.MethodName)) (z := ({ cls := "com/example/stubwright/stubwright/idl/Token", name := "position", desc := "()Lcom/example/stubwright/stubwright/SourcePosition;" } : Jvm.MethodName)) hown_177 (wd_117 hw) (wd_118 hw) (notFace_of_selects (args := #[]) (mvT hZ_177 (wd_120 hw))) (wd_120 hw) (wd_119 hw) (by decide) (backOf (W := 0) (rm_position l Z a0 hw zc kd0 kd1 kd2 kd3 kd4 kd5 kd6 kd7 kd8 kd9 kd10 kd11 kd12 kd13 kd14 kd15 kd16 kd17 (r_179) (b172) T_180.heap n0 (Nat.le_trans Z0 KP_180.1) f187 hSt O_180) hZ_177 (wd_121 hw) (wd_75 hw) (by decide) (by decide)) e_186 f189 (g := (mkF m 230 #[.val (.int p0), .val (.int p1), .val (.long j2), .second, .val (.int p3), .val (.int p4), .val (.int p5), .val (.int (1 : Int32)), .val (.int nn), .val (.int c0), .val (.int c1), .val (.int c2), .val (.ref r_169), .val (.ref r_170), .val (.ref r_171), .val (.ref b172), .val (.ref b175), .val (.ref kd0), .val (.ref r_179), .val (.ref r_180)] [(.ref r_179)])) rfl (by rw [hml]; rfl) (argsL := []) (rest := []) rfl (lenOf pd_17 rfl) rfl (by show 2 * 0 + _ ≤ _; exact Nat.le_of_eq rfl) (hb hby at_230) (by decide) (by decide)
    obtain ⟨rfl, Nq_188, e_188⟩ := hQ_188
    have N_188 := Fr.app N_186 Nq_188
    refine Go.step st_188 ?_
    show Go p e below _ (T_188.setTop (mkF m 233 #[.val (.int p0), .val (.int p1), .val (.long j2), .second, .val (.int p3), .val (.int p4), .val (.int p5), .val (.int (1 : Int32)), .val (.int nn), .val (.int c0), .val (.int c1), .val (.int c2), .val (.ref r_169), .val (.ref r_170), .val (.ref r_171), .val (.ref b172), .val (.ref b175), .val (.ref kd0), .val (.ref r_179), .val (.ref r_180)] [(.ref b172)]))
    refine Go.step (fun _ k => XS.aload X_188.here hx rfl (hb hby at_233) rfl rfl k) ?_
    show Go p e below _ (T_188.setTop (mkF m 235 #[.val (.int p0), .val (.int p1), .val (.long j2), .second, .val (.int p3), .val (.int p4), .val (.int p5), .val (.int (1 : Int32)), .val (.int nn), .val (.int c0), .val (.int c1), .val (.int c2), .val (.ref r_169), .val (.ref r_170), .val (.ref r_171), .val (.ref b172), .val (.ref b175), .val (.ref kd0), .val (.ref r_179), .val (.ref r_180)] [(.ref b172), (.ref b172)]))
    refine Go.step (fun _ k => Jvm.RoadKit.acmp (g := (mkF m 235 #[.val (.int p0), .val (.int p1), .val (.long j2), .second, .val (.int p3), .val (.int p4), .val (.int p5), .val (.int (1 : Int32)), .val (.int nn), .val (.int c0), .val (.int c1), .val (.int c2), .val (.ref r_169), .val (.ref r_170), .val (.ref r_171), .val (.ref b172), .val (.ref b175), .val (.ref kd0), .val (.ref r_179), .val (.ref r_180)] [(.ref b172), (.ref b172)])) X_188 hx rfl rfl rfl (pc0 := 235) (pc' := 238) (same := true) rfl (hb hby at_235) rfl (decide_eq_true rfl) (by decide) (by decide) k) ?_
    show Go p e below _ (T_188.setTop (mkF m 238 #[.val (.int p0), .val (.int p1), .val (.long j2), .second, .val (.int p3), .val (.int p4), .val (.int p5), .val (.int (1 : Int32)), .val (.int nn), .val (.int c0), .val (.int c1), .val (.int c2), .val (.ref r_169), .val (.ref r_170), .val (.ref r_171), .val (.ref b172), .val (.ref b175), .val (.ref kd0), .val (.ref r_179), .val (.ref r_180)] []))
    refine Go.step (fun _ k => XS.iconst X_188.here hx rfl (hb hby at_238) k) ?_
    show Go p e below _ (T_188.setTop (mkF m 239 #[.val (.int p0), .val (.int p1), .val (.long j2), .second, .val (.int p3), .val (.int p4), .val (.int p5), .val (.int (1 : Int32)), .val (.int nn), .val (.int c0), .val (.int c1), .val (.int c2), .val (.ref r_169), .val (.ref r_170), .val (.ref r_171), .val (.ref b172), .val (.ref b175), .val (.ref kd0), .val (.ref r_179), .val (.ref r_180)] [(.int (1 : Int32))]))
    refine Go.step (fun _ k => XS.goto X_188.here hx rfl (pc0 := 239) (pc' := 243) rfl (hb hby at_239) (by decide) (by decide) k) ?_
    show Go p e below _ (T_188.setTop (mkF m 243 #[.val (.int p0), .val (.int p1), .val (.long j2), .second, .val (.int p3), .val (.int p4), .val (.int p5), .val (.int (1 : Int32)), .val (.int nn), .val (.int c0), .val (.int c1), .val (.int c2), .val (.ref r_169), .val (.ref r_170), .val (.ref r_171), .val (.ref b172), .val (.ref b175), .val (.ref kd0), .val (.ref r_179), .val (.ref r_180)] [(.int (1 : Int32))]))
    exact Go.retVW X_188 e_188 hS_177 (Nat.le_trans (Nat.le_refl _) (Nat.le_trans le_179 le_180)) hZ_177 hEL hh0 CR_180 hx hlk hret rfl (Or.inl ⟨rfl, Or.inr (Or.inl rfl), _, rfl⟩) (hb hby at_243) (by decide) (by decide) (by rw [e_188]; exact ⟨rfl, N_188⟩)
--@E
set_option maxRecDepth 65536 in
set_option maxHeartbeats 40000000 in
theorem comes_1 {Post : Tables → Env → Array Value → State → Outcome → State → Prop} (hpost : ∀ tb e args s v u, (limb_1_1.after args s (.returned v) u = true ∧ limb_1_2.after args s (.returned v) u = true ∧ True) → ReturnedEndW s (.returned v) u (Jvm.fieldLocs frame_1_writes args s ++ Jvm.arrayLocs frame_1_arrays args s ++ Jvm.staticLocs frame_1_statics s) 40 2240 → Post tb e args s (.returned v) u) :
    ArmFor flags0 classFile x code maxLocals ret World_1 tables_1 room_1 Calls_1 rest_1 Pre_1 Post := by
  intro l hfl _ _ p e ha hc hk s m args below hf hA hF happ hP
  obtain ⟨hcalls, hrest, hpre⟩ := hP
  obtain ⟨-, -, -, hnamed, -, -, -, hat⟩ := (Spec.applies_iff hf).mp happ
  obtain ⟨hg, hn⟩ := and_e (Cond.before_iff.mp (show (Jvm.Cond.and given_1 narrow_1).before args s = true from hpre))
  obtain ⟨g_c, g_0⟩ := and_e hg
  obtain ⟨ga_0, g_1⟩ := and_e g_0
  obtain ⟨ga_1, g_2⟩ := and_e g_1
  obtain ⟨ga_2, g_3⟩ := and_e g_2
  obtain ⟨ga_3, g_4⟩ := and_e g_3
  obtain ⟨ga_4, g_5⟩ := and_e g_4
  have ga_5 := g_5
  obtain ⟨w0, w1, w2, w3, w4, w5, rfl⟩ : ∃ w0 w1 w2 w3 w4 w5 : Value, args = #[w0, w1, w2, w3, w4, w5] := by
    have hs : args.size = 6 := by simpa [Cond.value, given_1] using g_c
    obtain ⟨L⟩ := args
    match L, hs with
    | [w0, w1, w2, w3, w4, w5], _ => exact ⟨w0, w1, w2, w3, w4, w5, rfl⟩
  have hw := fun d (hd : d ∈ tables_1) => atoms_spec (ws := Jvm.Cond.code x code maxLocals ret :: tables_1) hat d (List.mem_cons_of_mem _ hd)
  obtain ⟨hsets, hown0⟩ := atoms_of _ (rest_1_c_eq ▸ (show rest_1_c.before _ s = true from hrest))
  obtain ⟨i0, ei0⟩ := is_v ga_0
  obtain rfl : w0 = (.int i0) := Option.some.inj ei0
  obtain ⟨i1, ei1⟩ := is_v ga_1
  obtain rfl : w1 = (.int i1) := Option.some.inj ei1
  obtain ⟨i2, ei2⟩ := isL_v ga_2
  obtain rfl : w2 = (.long i2) := Option.some.inj ei2
  obtain ⟨i3, ei3⟩ := is_v ga_3
  obtain rfl : w3 = (.int i3) := Option.some.inj ei3
  obtain ⟨i4, ei4⟩ := is_v ga_4
  obtain rfl : w4 = (.int i4) := Option.some.inj ei4
  obtain ⟨i5, ei5⟩ := is_v ga_5
  obtain rfl : w5 = (.int i5) := Option.some.inj ei5
  have hs := fun (k : Nat) (d : Jvm.Cond) (h : jdkStatics_1[k]? = some d) => Cond.before_iff.mp (hsets d (List.mem_of_getElem? h))
  obtain ⟨zc, ezc⟩ := is_v (hs 1 _ rfl)
  have S_cs : Sta s s.heap "java/lang/String" "COMPACT_STRINGS" "Z" (.int zc) := Sta.start ezc (Or.inl (hsets _ (List.mem_of_getElem? (i := 0) rfl)))
  have n_cs : ¬ (zc = (0 : Int32)) := gotF (Cond.eq_ints ezc (Term.int_eval (0))) (not_v (hs 2 _ rfl))
  obtain ⟨na_0, nb_0⟩ := and_e hn
  obtain ⟨na_1, nb_1⟩ := and_e nb_0
  obtain ⟨na_2, nb_2⟩ := and_e nb_1
  obtain ⟨na_3, nb_3⟩ := and_e nb_2
  obtain ⟨na_4, nb_4⟩ := and_e nb_3
  obtain ⟨na_5, nb_5⟩ := and_e nb_4
  obtain ⟨na_6, nb_6⟩ := and_e nb_5
  obtain ⟨na_7, nb_7⟩ := and_e nb_6
  obtain ⟨na_8, nb_8⟩ := and_e nb_7
  obtain ⟨na_9, nb_9⟩ := and_e nb_8
  obtain ⟨na_10, nb_10⟩ := and_e nb_9
  obtain ⟨na_11, nb_11⟩ := and_e nb_10
  obtain ⟨na_12, nb_12⟩ := and_e nb_11
  obtain ⟨na_13, nb_13⟩ := and_e nb_12
  obtain ⟨na_14, nb_14⟩ := and_e nb_13
  obtain ⟨na_15, nb_15⟩ := and_e nb_14
  obtain ⟨na_16, nb_16⟩ := and_e nb_15
  have na_17 := nb_16
  obtain ⟨kd0, S_kd0, E_kd0, v_kd0⟩ := sta_obj (Or.inr ⟨(wd_71 hw), (wd_72 hw)⟩) na_0
  obtain ⟨kd1, S_kd1, E_kd1, v_kd1⟩ := sta_obj (Or.inr ⟨(wd_71 hw), (wd_154 hw)⟩) na_12
  obtain ⟨kd2, S_kd2, E_kd2, v_kd2⟩ := sta_obj (Or.inr ⟨(wd_71 hw), (wd_146 hw)⟩) na_8
  obtain ⟨kd3, S_kd3, E_kd3, v_kd3⟩ := sta_obj (Or.inr ⟨(wd_71 hw), (wd_150 hw)⟩) na_10
  obtain ⟨kd4, S_kd4, E_kd4, v_kd4⟩ := sta_obj (Or.inr ⟨(wd_71 hw), (wd_148 hw)⟩) na_9
  obtain ⟨kd5, S_kd5, E_kd5, v_kd5⟩ := sta_obj (Or.inr ⟨(wd_71 hw), (wd_128 hw)⟩) na_1
  obtain ⟨kd6, S_kd6, E_kd6, v_kd6⟩ := sta_obj (Or.inr ⟨(wd_71 hw), (wd_140 hw)⟩) na_5
  obtain ⟨kd7, S_kd7, E_kd7, v_kd7⟩ := sta_obj (Or.inr ⟨(wd_71 hw), (wd_158 hw)⟩) na_14
  obtain ⟨kd8, S_kd8, E_kd8, v_kd8⟩ := sta_obj (Or.inr ⟨(wd_71 hw), (wd_144 hw)⟩) na_7
  obtain ⟨kd9, S_kd9, E_kd9, v_kd9⟩ := sta_obj (Or.inr ⟨(wd_71 hw), (wd_152 hw)⟩) na_11
  obtain ⟨kd10, S_kd10, E_kd10, v_kd10⟩ := sta_obj (Or.inr ⟨(wd_71 hw), (wd_162 hw)⟩) na_16
  obtain ⟨kd11, S_kd11, E_kd11, v_kd11⟩ := sta_obj (Or.inr ⟨(wd_71 hw), (wd_134 hw)⟩) na_2
  obtain ⟨kd12, S_kd12, E_kd12, v_kd12⟩ := sta_obj (Or.inr ⟨(wd_71 hw), (wd_160 hw)⟩) na_15
  obtain ⟨kd13, S_kd13, E_kd13, v_kd13⟩ := sta_obj (Or.inr ⟨(wd_71 hw), (wd_138 hw)⟩) na_4
  obtain ⟨kd14, S_kd14, E_kd14, v_kd14⟩ := sta_obj (Or.inr ⟨(wd_71 hw), (wd_156 hw)⟩) na_13
  obtain ⟨kd15, S_kd15, E_kd15, v_kd15⟩ := sta_obj (Or.inr ⟨(wd_71 hw), (wd_142 hw)⟩) na_6
  obtain ⟨kd16, S_kd16, E_kd16, v_kd16⟩ := sta_obj (Or.inr ⟨(wd_71 hw), (wd_164 hw)⟩) na_17
  obtain ⟨kd17, S_kd17, E_kd17, v_kd17⟩ := sta_obj (Or.inr ⟨(wd_71 hw), (wd_136 hw)⟩) na_3
  have hSt : St s zc kd0 kd1 kd2 kd3 kd4 kd5 kd6 kd7 kd8 kd9 kd10 kd11 kd12 kd13 kd14 kd15 kd16 kd17 := ⟨S_cs, n_cs, S_kd0, S_kd1, S_kd2, S_kd3, S_kd4, S_kd5, S_kd6, S_kd7, S_kd8, S_kd9, S_kd10, S_kd11, S_kd12, S_kd13, S_kd14, S_kd15, S_kd16, S_kd17⟩
  have hCV : CHv s EL s.vm s.heap := CHv.start (hEL_ hw) hcalls.1 (hsets _ (List.mem_of_getElem? (i := 2) rfl)) (wd_24 hw) (wd_6 hw)
  obtain ⟨n, o, h1, h2, h3, _, L, rfl, ⟨rfl, N⟩, -, hq⟩ := rm_law l s _ hw zc kd0 kd1 kd2 kd3 kd4 kd5 kd6 kd7 kd8 kd9 kd10 kd11 kd12 kd13 kd14 kd15 kd16 kd17 i0 i1 i2 i3 i4 i5 s.heap s.heap.size (Nat.le_refl _) hSt (Old.start s) p e ha hc hk s m _ below hf ((Spec.applies_iff_loose hf).mp happ).1 ⟨rfl, State.Warmed39.refl s, rfl, hCV⟩ trivial
  refine ⟨n, _, h1, h2, h3, hpost _ _ _ _ _ _ ⟨Cond.after_iff.mpr rfl, Cond.after_iff.mpr (eq_i res_at (Term.int_eval (1)) rfl), trivial⟩ ⟨hq.1, hq.2.1, hq.2.2.1, (hq.2.2.2.sift fun y hy => Or.inr (N y hy)).mono (by decide) (by decide)⟩⟩
theorem main_1_1 : Claimed_1_1 := comes_1 fun _ _ _ _ _ _ h hF => ⟨h.1, hF⟩
theorem main_1_2 : Claimed_1_2 := comes_1 fun _ _ _ _ _ _ h hF => ⟨h.2.1, hF⟩
end Jvm.Pilot.@@N@@
namespace Jvm.Pilot.@@N@@
open Jvm Jvm.ClassFile Sem Op Lib Jvm.Free Jvm.Stand Jvm.Pilot.@@N@@.Jvm.D
/-! MADE BY PROGRAM (witnessworld.py) out of the Statement's table words and the real class files: 24 classes; the members and pool entries that the words name. The judged class is class 1, her method 3. -/
namespace start1
open Jvm.ClassFile
def u (s : String) : CpInfo := .utf8 (stringToUtf16 s)
/-- a pool by its gaps: so many unusable entries, then the entry; so many at the end -/
def gap : Nat → List CpInfo → List CpInfo
  | 0, r => r
  | n + 1, r => .unusable :: gap n r
def poolList (es : List (Nat × CpInfo)) (last : Nat) : List CpInfo := es.foldr (fun e r => gap e.1 (e.2 :: r)) (gap last [])
def pool (es : List (Nat × CpInfo)) (last : Nat) : Array CpInfo := ⟨poolList es last⟩
def fileOf (pool : Array CpInfo) (this : Nat) (attrs : Array Attribute := #[]) (ms : Array MethodInfo := #[]) (fl : Nat := 33) (sup : Nat := 0) (ifs : Array Nat := #[]) (fds : Array FieldInfo := #[]) : ClassFile where
  minorVersion := 0
  majorVersion := 65
  constantPool := pool
  accessFlags := fl
  thisClass := this
  superClass := sup
  interfaces := ifs
  fields := fds
  methods := ms
  attributes := attrs
def plain (name : String) (sup : Option ClassId) : Class where
  name := name
  kind := .ordinary
  loader := none
  accessFlags := 33
  super := sup
  interfaces := #[]
  cf := none
  fields := #[]
  methods := #[]
  instanceTypes := #[]
  staticTypes := #[]
  resolved := #[]
  callSites := []
  init := .initialized
  statics := none
  mirror := none

def pool0 : Array CpInfo := pool [(5, u "<init>"), (0, u "()V"), (1, .class_ 10), (1, u "java/lang/Object")] 113

def k0c0 : Code := { maxStack := 0, maxLocals := 1, code := object_method_1_code, exceptionTable := #[], attributes := #[] }
def k0m0 : Method := { name := "<init>", desc := "()V", sig := { parameters := [], returnType := none }, accessFlags := 1, code := some k0c0 }
/-- java/lang/Object -/
def k0 : Class := { plain "java/lang/Object" none with
  accessFlags := 33
  interfaces := #[]
  cf := some (fileOf pool0 8 #[] #[{ accessFlags := 1, nameIndex := 5, descriptorIndex := 6, attributes := #[] }] 33 0 #[] #[])
  fields := #[]
  methods := #[k0m0]
  instanceTypes := #[]
  staticTypes := #[]
  resolved := Array.replicate 124 none
  statics := none }

def pool1 : Array CpInfo := pool [(2, .class_ 4), (1, u "java/lang/Object"), (0, u "<init>"), (0, u "()V"), (0, .integer 2147483647), (0, .fieldref 9 10), (0, .class_ 11), (0, .nameAndType 12 13), (0, u "com/example/stubwright/stubwright/idl/Token$Kind"), (0, u "IDENTIFIER"), (0, u "Lcom/example/stubwright/stubwright/idl/Token$Kind;"), (0, .fieldref 9 15), (0, .nameAndType 16 13), (0, u "KEYWORD"), (0, .fieldref 9 18), (0, .nameAndType 19 13), (0, u "INTEGER"), (0, .fieldref 9 21), (0, .nameAndType 22 13), (0, u "FLOATING_POINT"), (0, .fieldref 9 24), (0, .nameAndType 25 13), (0, u "FIXED_POINT"), (0, .fieldref 9 27), (0, .nameAndType 28 13), (0, u "CHARACTER"), (0, .fieldref 9 30), (0, .nameAndType 31 13), (0, u "WIDE_CHARACTER"), (0, .fieldref 9 33), (0, .nameAndType 34 13), (0, u "STRING"), (0, .fieldref 9 36), (0, .nameAndType 37 13), (0, u "WIDE_STRING"), (0, .fieldref 9 39), (0, .nameAndType 40 13), (0, u "PUNCTUATOR"), (0, .fieldref 9 42), (0, .nameAndType 43 13), (0, u "OTHER"), (0, .fieldref 9 45), (0, .nameAndType 46 13), (0, u "DIRECTIVE"), (0, .fieldref 9 48), (0, .nameAndType 49 13), (0, u "DIRECTIVE_END"), (0, .fieldref 9 51), (0, .nameAndType 52 13), (0, u "HEADER_NAME"), (0, .fieldref 9 54), (0, .nameAndType 55 13), (0, u "INCLUDE_START"), (0, .fieldref 9 57), (0, .nameAndType 58 13), (0, u "INCLUDE_END"), (0, .fieldref 9 60), (0, .nameAndType 61 13), (0, u "PRAGMA"), (0, .fieldref 9 63), (0, .nameAndType 64 13), (0, u "END"), (0, .class_ 66), (0, u "java/lang/String"), (0, .methodref 65 68), (0, .nameAndType 5 69), (0, u "([C)V"), (0, .long 255), (1, .methodref 73 74), (0, .class_ 75), (0, .nameAndType 76 77), (0, u "com/example/stubwright/stubwright/idl/TokenMovedToPinLaw"), (0, u "textOf"), (0, u "(ICCC)Ljava/lang/String;"), (0, .methodref 65 79), (0, .nameAndType 80 81), (0, u "valueOf"), (0, u "(C)Ljava/lang/String;"), (0, .class_ 83), (0, u "com/example/stubwright/stubwright/SourcePosition"), (0, .methodref 82 85), (0, .nameAndType 5 86), (0, u "(Ljava/lang/String;II)V"), (0, .methodref 73 88), (0, .nameAndType 89 90), (0, u "kindOf"), (0, u "(I)Lcom/example/stubwright/stubwright/idl/Token$Kind;"), (0, .methodref 92 93), (0, .class_ 94), (0, .nameAndType 95 96), (0, u "com/example/stubwright/stubwright/idl/Token"), (0, u "escapedIdentifier"), (0, u "(Ljava/lang/String;Lcom/example/stubwright/stubwright/SourcePosition;)Lcom/example/stubwright/stubwright/idl/Token;"), (0, .methodref 92 98), (0, .nameAndType 5 99), (0, u "(Lcom/example/stubwright/stubwright/idl/Token$Kind;Ljava/lang/String;Lcom/example/stubwright/stubwright/SourcePosition;)V"), (0, .methodref 92 101), (0, .nameAndType 102 103), (0, u "movedTo"), (0, u "(Lcom/example/stubwright/stubwright/SourcePosition;)Lcom/example/stubwright/stubwright/idl/Token;"), (0, .methodref 92 105), (0, .nameAndType 106 107), (0, u "kind"), (0, u "()Lcom/example/stubwright/stubwright/idl/Token$Kind;"), (0, .methodref 92 109), (0, .nameAndType 110 111), (0, u "text"), (0, u "()Ljava/lang/String;"), (0, .methodref 65 113), (0, .nameAndType 114 115), (0, u "equals"), (0, u "(Ljava/lang/Object;)Z"), (0, .methodref 92 117), (0, .nameAndType 118 119), (0, u "isEscaped"), (0, u "()Z"), (0, .methodref 92 121), (0, .nameAndType 122 123), (0, u "position"), (0, u "()Lcom/example/stubwright/stubwright/SourcePosition;"), (3, u "law"), (0, u "(IIJIII)Z")] 4

def k1m0 : Method := { name := "<init>", desc := "()V", sig := { parameters := [], returnType := none }, accessFlags := 1, code := none }
def k1c1 : Code := { maxStack := 2, maxLocals := 2, code := method_2_code, exceptionTable := #[], attributes := #[] }
def k1m1 : Method := { name := "kindOf", desc := "(I)Lcom/example/stubwright/stubwright/idl/Token$Kind;", sig := { parameters := [.int], returnType := some (.object "com/example/stubwright/stubwright/idl/Token$Kind") }, accessFlags := 10, code := some k1c1 }
def k1c2 : Code := { maxStack := 6, maxLocals := 4, code := method_3_code, exceptionTable := #[], attributes := #[] }
def k1m2 : Method := { name := "textOf", desc := "(ICCC)Ljava/lang/String;", sig := { parameters := [.int, .char, .char, .char], returnType := some (.object "java/lang/String") }, accessFlags := 10, code := some k1c2 }
def k1c3 : Code := { maxStack := 6, maxLocals := 20, code := code, exceptionTable := #[], attributes := #[] }
def k1m3 : Method := { name := "law", desc := "(IIJIII)Z", sig := { parameters := [.int, .int, .long, .int, .int, .int], returnType := some .boolean }, accessFlags := 9, code := some k1c3 }
/-- com/example/stubwright/stubwright/idl/TokenMovedToPinLaw -/
def k1 : Class := { plain "com/example/stubwright/stubwright/idl/TokenMovedToPinLaw" (some 0) with
  accessFlags := 49
  interfaces := #[]
  cf := some (fileOf pool1 73 #[] #[{ accessFlags := 1, nameIndex := 5, descriptorIndex := 6, attributes := #[] }, { accessFlags := 10, nameIndex := 89, descriptorIndex := 90, attributes := #[] }, { accessFlags := 10, nameIndex := 76, descriptorIndex := 77, attributes := #[] }, { accessFlags := 9, nameIndex := 127, descriptorIndex := 128, attributes := #[] }] 49 2 #[] #[])
  fields := #[]
  methods := #[k1m0, k1m1, k1m2, k1m3]
  instanceTypes := #[]
  staticTypes := #[]
  resolved := Array.replicate 133 none
  statics := none }

def pool2 : Array CpInfo := pool [(1, .class_ 2), (0, u "java/io/Serializable"), (0, .class_ 4), (0, u "java/lang/Object")] 2

/-- java/io/Serializable -/
def k2 : Class := { plain "java/io/Serializable" (some 0) with
  accessFlags := 1537
  interfaces := #[]
  cf := some (fileOf pool2 1 #[] #[] 1537 3 #[] #[])
  fields := #[]
  methods := #[]
  instanceTypes := #[]
  staticTypes := #[]
  resolved := Array.replicate 7 none
  statics := none }

def pool3 : Array CpInfo := pool [(1, .class_ 2), (0, u "java/lang/Comparable"), (0, .class_ 4), (0, u "java/lang/Object")] 7

/-- java/lang/Comparable -/
def k3 : Class := { plain "java/lang/Comparable" (some 0) with
  accessFlags := 1537
  interfaces := #[]
  cf := some (fileOf pool3 1 #[] #[] 1537 3 #[] #[])
  fields := #[]
  methods := #[]
  instanceTypes := #[]
  staticTypes := #[]
  resolved := Array.replicate 12 none
  statics := none }

def pool4 : Array CpInfo := pool [(2, .class_ 4), (1, u "java/lang/CharSequence"), (42, .class_ 48), (0, u "java/lang/CharSequence$1CodePointIterator"), (10, .class_ 60), (0, u "java/lang/CharSequence$1CharIterator"), (5, .class_ 67), (0, u "java/lang/Object")] 63

/-- java/lang/CharSequence -/
def k4 : Class := { plain "java/lang/CharSequence" (some 0) with
  accessFlags := 1537
  interfaces := #[]
  cf := some (fileOf pool4 2 #[.nestMembers #[47, 59]] #[] 1537 66 #[] #[])
  fields := #[]
  methods := #[]
  instanceTypes := #[]
  staticTypes := #[]
  resolved := Array.replicate 131 none
  statics := none }

def pool5 : Array CpInfo := pool [(1, .class_ 2), (0, u "java/lang/constant/Constable"), (0, .class_ 4), (0, u "java/lang/Object")] 6

/-- java/lang/constant/Constable -/
def k5 : Class := { plain "java/lang/constant/Constable" (some 0) with
  accessFlags := 1537
  interfaces := #[]
  cf := some (fileOf pool5 1 #[] #[] 1537 3 #[] #[])
  fields := #[]
  methods := #[]
  instanceTypes := #[]
  staticTypes := #[]
  resolved := Array.replicate 11 none
  statics := none }

def pool6 : Array CpInfo := pool [(1, .class_ 2), (0, u "java/lang/constant/ConstantDesc"), (0, .class_ 4), (0, u "java/lang/Object")] 32

/-- java/lang/constant/ConstantDesc -/
def k6 : Class := { plain "java/lang/constant/ConstantDesc" (some 0) with
  accessFlags := 1537
  interfaces := #[]
  cf := some (fileOf pool6 1 #[] #[] 1537 3 #[] #[])
  fields := #[]
  methods := #[]
  instanceTypes := #[]
  staticTypes := #[]
  resolved := Array.replicate 37 none
  statics := none }

def pool7 : Array CpInfo := pool [(1, .methodref 2 3), (0, .class_ 4), (0, .nameAndType 5 6), (0, u "java/lang/Object"), (0, u "<init>"), (0, u "()V"), (0, .string 8), (0, u ""), (0, .fieldref 10 11), (0, .class_ 12), (0, .nameAndType 13 14), (0, u "java/lang/String"), (0, u "value"), (0, u "[B"), (0, .fieldref 10 16), (0, .nameAndType 17 18), (0, u "coder"), (0, u "B"), (2, u "hash"), (0, u "I"), (2, u "hashIsZero"), (0, u "Z"), (0, .methodref 10 28), (0, .nameAndType 5 29), (0, u "([CIILjava/lang/Void;)V"), (8, .fieldref 10 39), (0, .nameAndType 40 26), (0, u "COMPACT_STRINGS"), (1, .class_ 44), (1, u "java/lang/StringUTF16"), (0, u "compress"), (1, .methodref 42 48), (0, .nameAndType 49 50), (0, u "coderFromArrayLen"), (0, u "([BI)B"), (2, u "toBytes"), (53, .class_ 109), (1, u "java/lang/StringLatin1"), (67, .methodref 42 178), (0, .nameAndType 45 179), (0, u "([CII)[B"), (29, .methodref 10 210), (0, .nameAndType 5 211), (0, u "([BB)V"), (157, u "(C)Z"), (173, u "equals"), (29, u "(Ljava/lang/Object;)Z"), (1, .class_ 576), (0, u "java/lang/CharSequence"), (22, u "CASE_INSENSITIVE_ORDER"), (0, u "Ljava/util/Comparator;"), (181, u "valueOf"), (0, u "(C)Ljava/lang/String;"), (226, u "([C)V"), (4, .methodref 107 1016), (0, .nameAndType 1017 369), (0, u "canEncode"), (0, .methodref 107 1019), (0, .nameAndType 53 1020), (0, u "(C)[B"), (80, u "serialPersistentFields"), (0, u "[Ljava/io/ObjectStreamField;"), (0, .class_ 1104), (0, u "java/lang/String$CaseInsensitiveComparator"), (1, .class_ 1107), (0, u "java/io/Serializable"), (0, .class_ 1109), (0, u "java/lang/Comparable"), (0, .class_ 1111), (0, u "java/lang/constant/Constable"), (0, .class_ 1113), (0, u "java/lang/constant/ConstantDesc"), (2, u "serialVersionUID"), (0, u "J"), (3, u "REPL"), (0, u "C"), (2, u "LATIN1"), (1, u "UTF16")] 323

def k7m0 : Method := { name := "<init>", desc := "()V", sig := { parameters := [], returnType := none }, accessFlags := 1, code := none }
def k7c1 : Code := { maxStack := 5, maxLocals := 2, code := jdk_42_method_3_code, exceptionTable := #[], attributes := #[] }
def k7m1 : Method := { name := "<init>", desc := "([C)V", sig := { parameters := [(.array .char)], returnType := none }, accessFlags := 1, code := some k7c1 }
def k7c2 : Code := { maxStack := 2, maxLocals := 3, code := jdk_42_method_66_code, exceptionTable := #[], attributes := #[] }
def k7m2 : Method := { name := "equals", desc := "(Ljava/lang/Object;)Z", sig := { parameters := [(.object "java/lang/Object")], returnType := some .boolean }, accessFlags := 1, code := some k7c2 }
def k7c3 : Code := { maxStack := 4, maxLocals := 1, code := jdk_42_method_139_code, exceptionTable := #[], attributes := #[] }
def k7m3 : Method := { name := "valueOf", desc := "(C)Ljava/lang/String;", sig := { parameters := [.char], returnType := some (.object "java/lang/String") }, accessFlags := 9, code := some k7c3 }
def k7c4 : Code := { maxStack := 4, maxLocals := 6, code := jdk_42_method_149_code, exceptionTable := #[], attributes := #[] }
def k7m4 : Method := { name := "<init>", desc := "([CIILjava/lang/Void;)V", sig := { parameters := [(.array .char), .int, .int, (.object "java/lang/Void")], returnType := none }, accessFlags := 2, code := some k7c4 }
def k7c5 : Code := { maxStack := 2, maxLocals := 3, code := jdk_42_method_151_code, exceptionTable := #[], attributes := #[] }
def k7m5 : Method := { name := "<init>", desc := "([BB)V", sig := { parameters := [(.array .byte), .byte], returnType := none }, accessFlags := 0, code := some k7c5 }
/-- java/lang/String -/
def k7 : Class := { plain "java/lang/String" (some 0) with
  accessFlags := 49
  interfaces := #[2, 3, 4, 5, 6]
  cf := some (fileOf pool7 10 #[.nestMembers #[1103]] #[{ accessFlags := 1, nameIndex := 5, descriptorIndex := 6, attributes := #[] }, { accessFlags := 1, nameIndex := 5, descriptorIndex := 1010, attributes := #[] }, { accessFlags := 1, nameIndex := 543, descriptorIndex := 573, attributes := #[] }, { accessFlags := 9, nameIndex := 782, descriptorIndex := 783, attributes := #[] }, { accessFlags := 2, nameIndex := 5, descriptorIndex := 29, attributes := #[] }, { accessFlags := 0, nameIndex := 5, descriptorIndex := 211, attributes := #[] }] 49 2 #[1106, 1108, 575, 1110, 1112] #[{ accessFlags := 18, nameIndex := 13, descriptorIndex := 14, attributes := #[] }, { accessFlags := 18, nameIndex := 17, descriptorIndex := 18, attributes := #[] }, { accessFlags := 2, nameIndex := 21, descriptorIndex := 22, attributes := #[] }, { accessFlags := 2, nameIndex := 25, descriptorIndex := 26, attributes := #[] }, { accessFlags := 26, nameIndex := 1116, descriptorIndex := 1117, attributes := #[] }, { accessFlags := 24, nameIndex := 40, descriptorIndex := 26, attributes := #[] }, { accessFlags := 26, nameIndex := 1101, descriptorIndex := 1102, attributes := #[] }, { accessFlags := 26, nameIndex := 1121, descriptorIndex := 1122, attributes := #[] }, { accessFlags := 25, nameIndex := 599, descriptorIndex := 600, attributes := #[] }, { accessFlags := 24, nameIndex := 1125, descriptorIndex := 18, attributes := #[] }, { accessFlags := 24, nameIndex := 1127, descriptorIndex := 18, attributes := #[] }])
  fields := #[{ name := "value", type := (.array .byte), accessFlags := 18, slot := 0, constantValue := 0 }, { name := "coder", type := .byte, accessFlags := 18, slot := 1, constantValue := 0 }, { name := "hash", type := .int, accessFlags := 2, slot := 2, constantValue := 0 }, { name := "hashIsZero", type := .boolean, accessFlags := 2, slot := 3, constantValue := 0 }, { name := "serialVersionUID", type := .long, accessFlags := 26, slot := 0, constantValue := 0 }, { name := "COMPACT_STRINGS", type := .boolean, accessFlags := 24, slot := 1, constantValue := 0 }, { name := "serialPersistentFields", type := (.array (.object "java/io/ObjectStreamField")), accessFlags := 26, slot := 2, constantValue := 0 }, { name := "REPL", type := .char, accessFlags := 26, slot := 3, constantValue := 0 }, { name := "CASE_INSENSITIVE_ORDER", type := (.object "java/util/Comparator"), accessFlags := 25, slot := 4, constantValue := 0 }, { name := "LATIN1", type := .byte, accessFlags := 24, slot := 5, constantValue := 0 }, { name := "UTF16", type := .byte, accessFlags := 24, slot := 6, constantValue := 0 }]
  methods := #[k7m0, k7m1, k7m2, k7m3, k7m4, k7m5]
  instanceTypes := #[(.array .byte), .byte, .int, .boolean]
  staticTypes := #[.long, .boolean, (.array (.object "java/io/ObjectStreamField")), .char, (.object "java/util/Comparator"), .byte, .byte]
  resolved := Array.replicate 1451 none
  statics := some 0 }

def pool8 : Array CpInfo := pool [(6, .class_ 8), (1, u "java/lang/Object"), (0, u "<init>"), (0, u "()V"), (1, .class_ 14), (1, u "java/lang/StringUTF16"), (31, u "$assertionsDisabled"), (0, u "Z"), (13, u "HI_BYTE_SHIFT"), (0, u "I"), (2, u "LO_BYTE_SHIFT"), (49, .methodref 12 116), (0, .nameAndType 117 118), (0, u "compress"), (0, u "([CI[BII)I"), (3, u "([CII)[B"), (138, u "coderFromArrayLen"), (0, u "([BI)B"), (106, .class_ 371), (1, u "java/lang/StringUTF16$LinesSpliterator"), (58, u "MAX_LENGTH"), (196, .class_ 628), (0, u "java/lang/StringUTF16$CodePointsSpliterator"), (0, .class_ 630), (0, u "java/lang/StringUTF16$CharsSpliterator")] 4

def k8m0 : Method := { name := "<init>", desc := "()V", sig := { parameters := [], returnType := none }, accessFlags := 0, code := none }
def k8c1 : Code := { maxStack := 2, maxLocals := 2, code := jdk_52_method_15_code, exceptionTable := #[], attributes := #[] }
def k8m1 : Method := { name := "coderFromArrayLen", desc := "([BI)B", sig := { parameters := [(.array .byte), .int], returnType := some .byte }, accessFlags := 8, code := some k8c1 }
def k8c2 : Code := { maxStack := 5, maxLocals := 6, code := jdk_52_method_16_code, exceptionTable := #[], attributes := #[] }
def k8m2 : Method := { name := "compress", desc := "([CII)[B", sig := { parameters := [(.array .char), .int, .int], returnType := some (.array .byte) }, accessFlags := 9, code := some k8c2 }
def k8c3 : Code := { maxStack := 3, maxLocals := 7, code := jdk_52_method_21_code, exceptionTable := #[], attributes := #[] }
def k8m3 : Method := { name := "compress", desc := "([CI[BII)I", sig := { parameters := [(.array .char), .int, (.array .byte), .int, .int], returnType := some .int }, accessFlags := 9, code := some k8c3 }
/-- java/lang/StringUTF16 -/
def k8 : Class := { plain "java/lang/StringUTF16" (some 0) with
  accessFlags := 48
  interfaces := #[]
  cf := some (fileOf pool8 12 #[.nestMembers #[627, 629, 369]] #[{ accessFlags := 0, nameIndex := 9, descriptorIndex := 10, attributes := #[] }, { accessFlags := 8, nameIndex := 261, descriptorIndex := 262, attributes := #[] }, { accessFlags := 9, nameIndex := 117, descriptorIndex := 122, attributes := #[] }, { accessFlags := 9, nameIndex := 117, descriptorIndex := 118, attributes := #[] }] 48 6 #[] #[{ accessFlags := 26, nameIndex := 61, descriptorIndex := 62, attributes := #[] }, { accessFlags := 26, nameIndex := 65, descriptorIndex := 62, attributes := #[] }, { accessFlags := 24, nameIndex := 430, descriptorIndex := 62, attributes := #[] }, { accessFlags := 4120, nameIndex := 46, descriptorIndex := 47, attributes := #[] }])
  fields := #[{ name := "HI_BYTE_SHIFT", type := .int, accessFlags := 26, slot := 0, constantValue := 0 }, { name := "LO_BYTE_SHIFT", type := .int, accessFlags := 26, slot := 1, constantValue := 0 }, { name := "MAX_LENGTH", type := .int, accessFlags := 24, slot := 2, constantValue := 0 }, { name := "$assertionsDisabled", type := .boolean, accessFlags := 4120, slot := 3, constantValue := 0 }]
  methods := #[k8m0, k8m1, k8m2, k8m3]
  instanceTypes := #[]
  staticTypes := #[.int, .int, .int, .boolean]
  resolved := Array.replicate 635 none
  statics := none }

def pool9 : Array CpInfo := pool [(4, .class_ 6), (1, u "java/lang/Object"), (0, u "<init>"), (0, u "()V"), (5, .class_ 16), (1, u "java/lang/StringLatin1"), (73, u "canEncode"), (14, u "(C)Z"), (15, u "$assertionsDisabled"), (0, u "Z"), (98, .class_ 223), (1, u "java/lang/StringLatin1$LinesSpliterator"), (156, u "toBytes"), (1, u "(C)[B"), (7, .class_ 391), (0, u "java/lang/StringLatin1$CharsSpliterator")] 3

def k9m0 : Method := { name := "<init>", desc := "()V", sig := { parameters := [], returnType := none }, accessFlags := 0, code := none }
def k9c1 : Code := { maxStack := 2, maxLocals := 1, code := jdk_43_method_3_code, exceptionTable := #[], attributes := #[] }
def k9m1 : Method := { name := "canEncode", desc := "(C)Z", sig := { parameters := [.char], returnType := some .boolean }, accessFlags := 9, code := some k9c1 }
def k9c2 : Code := { maxStack := 4, maxLocals := 1, code := jdk_43_method_46_code, exceptionTable := #[], attributes := #[] }
def k9m2 : Method := { name := "toBytes", desc := "(C)[B", sig := { parameters := [.char], returnType := some (.array .byte) }, accessFlags := 9, code := some k9c2 }
/-- java/lang/StringLatin1 -/
def k9 : Class := { plain "java/lang/StringLatin1" (some 0) with
  accessFlags := 48
  interfaces := #[]
  cf := some (fileOf pool9 14 #[.nestMembers #[390, 221]] #[{ accessFlags := 0, nameIndex := 7, descriptorIndex := 8, attributes := #[] }, { accessFlags := 9, nameIndex := 90, descriptorIndex := 105, attributes := #[] }, { accessFlags := 9, nameIndex := 380, descriptorIndex := 382, attributes := #[] }] 48 4 #[] #[{ accessFlags := 4120, nameIndex := 121, descriptorIndex := 122, attributes := #[] }])
  fields := #[{ name := "$assertionsDisabled", type := .boolean, accessFlags := 4120, slot := 0, constantValue := 0 }]
  methods := #[k9m0, k9m1, k9m2]
  instanceTypes := #[]
  staticTypes := #[.boolean]
  resolved := Array.replicate 395 none
  statics := none }

def pool10 : Array CpInfo := pool [(1, .methodref 2 3), (0, .class_ 4), (0, .nameAndType 5 6), (0, u "java/lang/Object"), (0, u "<init>"), (0, u "()V"), (0, .string 8), (0, u "file"), (0, .methodref 10 11), (0, .class_ 12), (0, .nameAndType 13 14), (0, u "java/util/Objects"), (0, u "requireNonNull"), (0, u "(Ljava/lang/Object;Ljava/lang/String;)Ljava/lang/Object;"), (0, .class_ 16), (0, u "java/lang/String"), (0, .fieldref 18 19), (0, .class_ 20), (0, .nameAndType 8 21), (0, u "com/example/stubwright/stubwright/SourcePosition"), (0, u "Ljava/lang/String;"), (0, .fieldref 18 23), (0, .nameAndType 24 25), (0, u "line"), (0, u "I"), (0, .fieldref 18 27), (0, .nameAndType 28 25), (0, u "column"), (4, u "(Ljava/lang/String;II)V")] 22

def k10c0 : Code := { maxStack := 3, maxLocals := 4, code := prog_4_method_1_code, exceptionTable := #[], attributes := #[] }
def k10m0 : Method := { name := "<init>", desc := "(Ljava/lang/String;II)V", sig := { parameters := [(.object "java/lang/String"), .int, .int], returnType := none }, accessFlags := 1, code := some k10c0 }
/-- com/example/stubwright/stubwright/SourcePosition -/
def k10 : Class := { plain "com/example/stubwright/stubwright/SourcePosition" (some 0) with
  accessFlags := 49
  interfaces := #[]
  cf := some (fileOf pool10 18 #[] #[{ accessFlags := 1, nameIndex := 5, descriptorIndex := 33, attributes := #[] }] 49 2 #[] #[{ accessFlags := 18, nameIndex := 8, descriptorIndex := 21, attributes := #[] }, { accessFlags := 18, nameIndex := 24, descriptorIndex := 25, attributes := #[] }, { accessFlags := 18, nameIndex := 28, descriptorIndex := 25, attributes := #[] }])
  fields := #[{ name := "file", type := (.object "java/lang/String"), accessFlags := 18, slot := 0, constantValue := 0 }, { name := "line", type := .int, accessFlags := 18, slot := 1, constantValue := 0 }, { name := "column", type := .int, accessFlags := 18, slot := 2, constantValue := 0 }]
  methods := #[k10m0]
  instanceTypes := #[(.object "java/lang/String"), .int, .int]
  staticTypes := #[]
  resolved := Array.replicate 56 none
  statics := none }

def pool11 : Array CpInfo := pool [(2, .class_ 4), (1, u "java/lang/Object"), (0, u "<init>"), (0, u "()V"), (35, .class_ 44), (1, u "java/util/Objects"), (0, u "requireNonNull"), (48, u "(Ljava/lang/Object;Ljava/lang/String;)Ljava/lang/Object;")] 89

def k11m0 : Method := { name := "<init>", desc := "()V", sig := { parameters := [], returnType := none }, accessFlags := 2, code := none }
def k11c1 : Code := { maxStack := 3, maxLocals := 2, code := jdk_31_method_11_code, exceptionTable := #[], attributes := #[] }
def k11m1 : Method := { name := "requireNonNull", desc := "(Ljava/lang/Object;Ljava/lang/String;)Ljava/lang/Object;", sig := { parameters := [(.object "java/lang/Object"), (.object "java/lang/String")], returnType := some (.object "java/lang/Object") }, accessFlags := 9, code := some k11c1 }
/-- java/util/Objects -/
def k11 : Class := { plain "java/util/Objects" (some 0) with
  accessFlags := 49
  interfaces := #[]
  cf := some (fileOf pool11 42 #[] #[{ accessFlags := 2, nameIndex := 5, descriptorIndex := 6, attributes := #[] }, { accessFlags := 9, nameIndex := 45, descriptorIndex := 94, attributes := #[] }] 49 2 #[] #[])
  fields := #[]
  methods := #[k11m0, k11m1]
  instanceTypes := #[]
  staticTypes := #[]
  resolved := Array.replicate 184 none
  statics := none }

def pool12 : Array CpInfo := pool [(2, .class_ 4), (1, u "java/lang/Enum"), (0, u "name"), (0, u "Ljava/lang/String;"), (2, u "ordinal"), (0, u "I"), (1, .class_ 14), (1, u "java/lang/Object"), (4, u "hash"), (86, .class_ 108), (1, u "java/lang/Enum$EnumDesc"), (2, .class_ 112), (0, u "java/lang/constant/Constable"), (0, .class_ 114), (0, u "java/lang/Comparable"), (0, .class_ 116), (0, u "java/io/Serializable")] 87

/-- java/lang/Enum -/
def k12 : Class := { plain "java/lang/Enum" (some 0) with
  accessFlags := 1057
  interfaces := #[5, 3, 2]
  cf := some (fileOf pool12 2 #[.nestMembers #[106]] #[] 1057 12 #[111, 113, 115] #[{ accessFlags := 18, nameIndex := 5, descriptorIndex := 6, attributes := #[] }, { accessFlags := 18, nameIndex := 9, descriptorIndex := 10, attributes := #[] }, { accessFlags := 2, nameIndex := 19, descriptorIndex := 10, attributes := #[] }])
  fields := #[{ name := "name", type := (.object "java/lang/String"), accessFlags := 18, slot := 0, constantValue := 0 }, { name := "ordinal", type := .int, accessFlags := 18, slot := 1, constantValue := 0 }, { name := "hash", type := .int, accessFlags := 2, slot := 2, constantValue := 0 }]
  methods := #[]
  instanceTypes := #[(.object "java/lang/String"), .int, .int]
  staticTypes := #[]
  resolved := Array.replicate 204 none
  statics := none }

def pool13 : Array CpInfo := pool [(1, .class_ 2), (0, u "com/example/stubwright/stubwright/idl/Token$Kind"), (2, u "IDENTIFIER"), (0, u "Lcom/example/stubwright/stubwright/idl/Token$Kind;"), (2, u "KEYWORD"), (2, u "INTEGER"), (2, u "FLOATING_POINT"), (2, u "FIXED_POINT"), (2, u "CHARACTER"), (2, u "WIDE_CHARACTER"), (2, u "STRING"), (2, u "WIDE_STRING"), (2, u "PUNCTUATOR"), (2, u "OTHER"), (2, u "DIRECTIVE"), (2, u "DIRECTIVE_END"), (2, u "HEADER_NAME"), (2, u "INCLUDE_START"), (2, u "INCLUDE_END"), (2, u "PRAGMA"), (2, u "END"), (2, u "$VALUES"), (0, u "[Lcom/example/stubwright/stubwright/idl/Token$Kind;"), (6, .class_ 70), (1, u "java/lang/Enum"), (41, .class_ 113), (0, u "com/example/stubwright/stubwright/idl/Token")] 2

/-- com/example/stubwright/stubwright/idl/Token$Kind -/
def k13 : Class := { plain "com/example/stubwright/stubwright/idl/Token$Kind" (some 12) with
  accessFlags := 16432
  interfaces := #[]
  cf := some (fileOf pool13 1 #[.nestHost 112] #[] 16432 68 #[] #[{ accessFlags := 16409, nameIndex := 5, descriptorIndex := 6, attributes := #[] }, { accessFlags := 16409, nameIndex := 9, descriptorIndex := 6, attributes := #[] }, { accessFlags := 16409, nameIndex := 12, descriptorIndex := 6, attributes := #[] }, { accessFlags := 16409, nameIndex := 15, descriptorIndex := 6, attributes := #[] }, { accessFlags := 16409, nameIndex := 18, descriptorIndex := 6, attributes := #[] }, { accessFlags := 16409, nameIndex := 21, descriptorIndex := 6, attributes := #[] }, { accessFlags := 16409, nameIndex := 24, descriptorIndex := 6, attributes := #[] }, { accessFlags := 16409, nameIndex := 27, descriptorIndex := 6, attributes := #[] }, { accessFlags := 16409, nameIndex := 30, descriptorIndex := 6, attributes := #[] }, { accessFlags := 16409, nameIndex := 33, descriptorIndex := 6, attributes := #[] }, { accessFlags := 16409, nameIndex := 36, descriptorIndex := 6, attributes := #[] }, { accessFlags := 16409, nameIndex := 39, descriptorIndex := 6, attributes := #[] }, { accessFlags := 16409, nameIndex := 42, descriptorIndex := 6, attributes := #[] }, { accessFlags := 16409, nameIndex := 45, descriptorIndex := 6, attributes := #[] }, { accessFlags := 16409, nameIndex := 48, descriptorIndex := 6, attributes := #[] }, { accessFlags := 16409, nameIndex := 51, descriptorIndex := 6, attributes := #[] }, { accessFlags := 16409, nameIndex := 54, descriptorIndex := 6, attributes := #[] }, { accessFlags := 16409, nameIndex := 57, descriptorIndex := 6, attributes := #[] }, { accessFlags := 4122, nameIndex := 60, descriptorIndex := 61, attributes := #[] }])
  fields := #[{ name := "IDENTIFIER", type := (.object "com/example/stubwright/stubwright/idl/Token$Kind"), accessFlags := 16409, slot := 0, constantValue := 0 }, { name := "KEYWORD", type := (.object "com/example/stubwright/stubwright/idl/Token$Kind"), accessFlags := 16409, slot := 1, constantValue := 0 }, { name := "INTEGER", type := (.object "com/example/stubwright/stubwright/idl/Token$Kind"), accessFlags := 16409, slot := 2, constantValue := 0 }, { name := "FLOATING_POINT", type := (.object "com/example/stubwright/stubwright/idl/Token$Kind"), accessFlags := 16409, slot := 3, constantValue := 0 }, { name := "FIXED_POINT", type := (.object "com/example/stubwright/stubwright/idl/Token$Kind"), accessFlags := 16409, slot := 4, constantValue := 0 }, { name := "CHARACTER", type := (.object "com/example/stubwright/stubwright/idl/Token$Kind"), accessFlags := 16409, slot := 5, constantValue := 0 }, { name := "WIDE_CHARACTER", type := (.object "com/example/stubwright/stubwright/idl/Token$Kind"), accessFlags := 16409, slot := 6, constantValue := 0 }, { name := "STRING", type := (.object "com/example/stubwright/stubwright/idl/Token$Kind"), accessFlags := 16409, slot := 7, constantValue := 0 }, { name := "WIDE_STRING", type := (.object "com/example/stubwright/stubwright/idl/Token$Kind"), accessFlags := 16409, slot := 8, constantValue := 0 }, { name := "PUNCTUATOR", type := (.object "com/example/stubwright/stubwright/idl/Token$Kind"), accessFlags := 16409, slot := 9, constantValue := 0 }, { name := "OTHER", type := (.object "com/example/stubwright/stubwright/idl/Token$Kind"), accessFlags := 16409, slot := 10, constantValue := 0 }, { name := "DIRECTIVE", type := (.object "com/example/stubwright/stubwright/idl/Token$Kind"), accessFlags := 16409, slot := 11, constantValue := 0 }, { name := "DIRECTIVE_END", type := (.object "com/example/stubwright/stubwright/idl/Token$Kind"), accessFlags := 16409, slot := 12, constantValue := 0 }, { name := "HEADER_NAME", type := (.object "com/example/stubwright/stubwright/idl/Token$Kind"), accessFlags := 16409, slot := 13, constantValue := 0 }, { name := "INCLUDE_START", type := (.object "com/example/stubwright/stubwright/idl/Token$Kind"), accessFlags := 16409, slot := 14, constantValue := 0 }, { name := "INCLUDE_END", type := (.object "com/example/stubwright/stubwright/idl/Token$Kind"), accessFlags := 16409, slot := 15, constantValue := 0 }, { name := "PRAGMA", type := (.object "com/example/stubwright/stubwright/idl/Token$Kind"), accessFlags := 16409, slot := 16, constantValue := 0 }, { name := "END", type := (.object "com/example/stubwright/stubwright/idl/Token$Kind"), accessFlags := 16409, slot := 17, constantValue := 0 }, { name := "$VALUES", type := (.array (.object "com/example/stubwright/stubwright/idl/Token$Kind")), accessFlags := 4122, slot := 18, constantValue := 0 }]
  methods := #[]
  instanceTypes := #[(.object "java/lang/String"), .int, .int]
  staticTypes := #[(.object "com/example/stubwright/stubwright/idl/Token$Kind"), (.object "com/example/stubwright/stubwright/idl/Token$Kind"), (.object "com/example/stubwright/stubwright/idl/Token$Kind"), (.object "com/example/stubwright/stubwright/idl/Token$Kind"), (.object "com/example/stubwright/stubwright/idl/Token$Kind"), (.object "com/example/stubwright/stubwright/idl/Token$Kind"), (.object "com/example/stubwright/stubwright/idl/Token$Kind"), (.object "com/example/stubwright/stubwright/idl/Token$Kind"), (.object "com/example/stubwright/stubwright/idl/Token$Kind"), (.object "com/example/stubwright/stubwright/idl/Token$Kind"), (.object "com/example/stubwright/stubwright/idl/Token$Kind"), (.object "com/example/stubwright/stubwright/idl/Token$Kind"), (.object "com/example/stubwright/stubwright/idl/Token$Kind"), (.object "com/example/stubwright/stubwright/idl/Token$Kind"), (.object "com/example/stubwright/stubwright/idl/Token$Kind"), (.object "com/example/stubwright/stubwright/idl/Token$Kind"), (.object "com/example/stubwright/stubwright/idl/Token$Kind"), (.object "com/example/stubwright/stubwright/idl/Token$Kind"), (.array (.object "com/example/stubwright/stubwright/idl/Token$Kind"))]
  resolved := Array.replicate 116 none
  statics := some 1 }

def pool14 : Array CpInfo := pool [(1, .methodref 2 3), (0, .class_ 4), (0, .nameAndType 5 6), (0, u "com/example/stubwright/stubwright/idl/Token"), (0, u "<init>"), (0, u "(Lcom/example/stubwright/stubwright/idl/Token$Kind;Ljava/lang/String;Lcom/example/stubwright/stubwright/SourcePosition;Z)V"), (0, .methodref 8 9), (0, .class_ 10), (0, .nameAndType 5 11), (0, u "java/lang/Object"), (0, u "()V"), (0, .fieldref 2 13), (0, .nameAndType 14 15), (0, u "kind"), (0, u "Lcom/example/stubwright/stubwright/idl/Token$Kind;"), (0, .fieldref 2 17), (0, .nameAndType 18 19), (0, u "text"), (0, u "Ljava/lang/String;"), (0, .fieldref 2 21), (0, .nameAndType 22 23), (0, u "position"), (0, u "Lcom/example/stubwright/stubwright/SourcePosition;"), (0, .fieldref 2 25), (0, .nameAndType 26 27), (0, u "escaped"), (0, u "Z"), (0, .fieldref 29 30), (0, .class_ 31), (0, .nameAndType 32 15), (0, u "com/example/stubwright/stubwright/idl/Token$Kind"), (0, u "IDENTIFIER"), (36, u "QUOTED_LENGTH"), (0, u "I"), (2, u "(Lcom/example/stubwright/stubwright/idl/Token$Kind;Ljava/lang/String;Lcom/example/stubwright/stubwright/SourcePosition;)V"), (2, u "escapedIdentifier"), (0, u "(Ljava/lang/String;Lcom/example/stubwright/stubwright/SourcePosition;)Lcom/example/stubwright/stubwright/idl/Token;"), (0, u "movedTo"), (0, u "(Lcom/example/stubwright/stubwright/SourcePosition;)Lcom/example/stubwright/stubwright/idl/Token;"), (0, u "()Lcom/example/stubwright/stubwright/idl/Token$Kind;"), (0, u "()Ljava/lang/String;"), (0, u "()Lcom/example/stubwright/stubwright/SourcePosition;"), (2, u "isEscaped"), (0, u "()Z")] 27

def k14c0 : Code := { maxStack := 5, maxLocals := 4, code := prog_36_method_1_code, exceptionTable := #[], attributes := #[] }
def k14m0 : Method := { name := "<init>", desc := "(Lcom/example/stubwright/stubwright/idl/Token$Kind;Ljava/lang/String;Lcom/example/stubwright/stubwright/SourcePosition;)V", sig := { parameters := [(.object "com/example/stubwright/stubwright/idl/Token$Kind"), (.object "java/lang/String"), (.object "com/example/stubwright/stubwright/SourcePosition")], returnType := none }, accessFlags := 0, code := some k14c0 }
def k14c1 : Code := { maxStack := 2, maxLocals := 5, code := prog_36_method_2_code, exceptionTable := #[], attributes := #[] }
def k14m1 : Method := { name := "<init>", desc := "(Lcom/example/stubwright/stubwright/idl/Token$Kind;Ljava/lang/String;Lcom/example/stubwright/stubwright/SourcePosition;Z)V", sig := { parameters := [(.object "com/example/stubwright/stubwright/idl/Token$Kind"), (.object "java/lang/String"), (.object "com/example/stubwright/stubwright/SourcePosition"), .boolean], returnType := none }, accessFlags := 2, code := some k14c1 }
def k14c2 : Code := { maxStack := 6, maxLocals := 2, code := prog_36_method_3_code, exceptionTable := #[], attributes := #[] }
def k14m2 : Method := { name := "escapedIdentifier", desc := "(Ljava/lang/String;Lcom/example/stubwright/stubwright/SourcePosition;)Lcom/example/stubwright/stubwright/idl/Token;", sig := { parameters := [(.object "java/lang/String"), (.object "com/example/stubwright/stubwright/SourcePosition")], returnType := some (.object "com/example/stubwright/stubwright/idl/Token") }, accessFlags := 8, code := some k14c2 }
def k14c3 : Code := { maxStack := 6, maxLocals := 2, code := prog_36_method_4_code, exceptionTable := #[], attributes := #[] }
def k14m3 : Method := { name := "movedTo", desc := "(Lcom/example/stubwright/stubwright/SourcePosition;)Lcom/example/stubwright/stubwright/idl/Token;", sig := { parameters := [(.object "com/example/stubwright/stubwright/SourcePosition")], returnType := some (.object "com/example/stubwright/stubwright/idl/Token") }, accessFlags := 0, code := some k14c3 }
def k14c4 : Code := { maxStack := 1, maxLocals := 1, code := prog_36_method_5_code, exceptionTable := #[], attributes := #[] }
def k14m4 : Method := { name := "kind", desc := "()Lcom/example/stubwright/stubwright/idl/Token$Kind;", sig := { parameters := [], returnType := some (.object "com/example/stubwright/stubwright/idl/Token$Kind") }, accessFlags := 0, code := some k14c4 }
def k14c5 : Code := { maxStack := 1, maxLocals := 1, code := prog_36_method_6_code, exceptionTable := #[], attributes := #[] }
def k14m5 : Method := { name := "text", desc := "()Ljava/lang/String;", sig := { parameters := [], returnType := some (.object "java/lang/String") }, accessFlags := 0, code := some k14c5 }
def k14c6 : Code := { maxStack := 1, maxLocals := 1, code := prog_36_method_7_code, exceptionTable := #[], attributes := #[] }
def k14m6 : Method := { name := "position", desc := "()Lcom/example/stubwright/stubwright/SourcePosition;", sig := { parameters := [], returnType := some (.object "com/example/stubwright/stubwright/SourcePosition") }, accessFlags := 0, code := some k14c6 }
def k14c7 : Code := { maxStack := 1, maxLocals := 1, code := prog_36_method_9_code, exceptionTable := #[], attributes := #[] }
def k14m7 : Method := { name := "isEscaped", desc := "()Z", sig := { parameters := [], returnType := some .boolean }, accessFlags := 0, code := some k14c7 }
/-- com/example/stubwright/stubwright/idl/Token -/
def k14 : Class := { plain "com/example/stubwright/stubwright/idl/Token" (some 0) with
  accessFlags := 48
  interfaces := #[]
  cf := some (fileOf pool14 2 #[.nestMembers #[29]] #[{ accessFlags := 0, nameIndex := 5, descriptorIndex := 73, attributes := #[] }, { accessFlags := 2, nameIndex := 5, descriptorIndex := 6, attributes := #[] }, { accessFlags := 8, nameIndex := 76, descriptorIndex := 77, attributes := #[] }, { accessFlags := 0, nameIndex := 78, descriptorIndex := 79, attributes := #[] }, { accessFlags := 0, nameIndex := 14, descriptorIndex := 80, attributes := #[] }, { accessFlags := 0, nameIndex := 18, descriptorIndex := 81, attributes := #[] }, { accessFlags := 0, nameIndex := 22, descriptorIndex := 82, attributes := #[] }, { accessFlags := 0, nameIndex := 85, descriptorIndex := 86, attributes := #[] }] 48 8 #[] #[{ accessFlags := 26, nameIndex := 69, descriptorIndex := 70, attributes := #[] }, { accessFlags := 18, nameIndex := 14, descriptorIndex := 15, attributes := #[] }, { accessFlags := 18, nameIndex := 18, descriptorIndex := 19, attributes := #[] }, { accessFlags := 18, nameIndex := 22, descriptorIndex := 23, attributes := #[] }, { accessFlags := 18, nameIndex := 26, descriptorIndex := 27, attributes := #[] }])
  fields := #[{ name := "QUOTED_LENGTH", type := .int, accessFlags := 26, slot := 0, constantValue := 0 }, { name := "kind", type := (.object "com/example/stubwright/stubwright/idl/Token$Kind"), accessFlags := 18, slot := 0, constantValue := 0 }, { name := "text", type := (.object "java/lang/String"), accessFlags := 18, slot := 1, constantValue := 0 }, { name := "position", type := (.object "com/example/stubwright/stubwright/SourcePosition"), accessFlags := 18, slot := 2, constantValue := 0 }, { name := "escaped", type := .boolean, accessFlags := 18, slot := 3, constantValue := 0 }]
  methods := #[k14m0, k14m1, k14m2, k14m3, k14m4, k14m5, k14m6, k14m7]
  instanceTypes := #[(.object "com/example/stubwright/stubwright/idl/Token$Kind"), (.object "java/lang/String"), (.object "com/example/stubwright/stubwright/SourcePosition"), .boolean]
  staticTypes := #[.int]
  resolved := Array.replicate 114 none
  statics := none }

def pool15 : Array CpInfo := pool [(2, .class_ 4), (1, u "java/lang/Object"), (0, u "<init>"), (0, u "()V"), (17, .class_ 26), (1, u "jdk/internal/util/Preconditions"), (28, .class_ 56), (0, u "jdk/internal/util/Preconditions$4"), (57, .class_ 115), (0, u "jdk/internal/util/Preconditions$1"), (7, u "SIOOBE_FORMATTER"), (0, u "Ljava/util/function/BiFunction;"), (0, .class_ 126), (0, u "jdk/internal/util/Preconditions$2"), (3, u "AIOOBE_FORMATTER"), (0, .class_ 132), (0, u "jdk/internal/util/Preconditions$3"), (3, u "IOOBE_FORMATTER")] 57

def k15m0 : Method := { name := "<init>", desc := "()V", sig := { parameters := [], returnType := none }, accessFlags := 1, code := none }
/-- jdk/internal/util/Preconditions -/
def k15 : Class := { plain "jdk/internal/util/Preconditions" (some 0) with
  accessFlags := 33
  interfaces := #[]
  cf := some (fileOf pool15 24 #[.nestMembers #[55, 131, 125, 114]] #[{ accessFlags := 1, nameIndex := 5, descriptorIndex := 6, attributes := #[] }] 33 2 #[] #[{ accessFlags := 25, nameIndex := 123, descriptorIndex := 124, attributes := #[] }, { accessFlags := 25, nameIndex := 130, descriptorIndex := 124, attributes := #[] }, { accessFlags := 25, nameIndex := 136, descriptorIndex := 124, attributes := #[] }])
  fields := #[{ name := "SIOOBE_FORMATTER", type := (.object "java/util/function/BiFunction"), accessFlags := 25, slot := 0, constantValue := 0 }, { name := "AIOOBE_FORMATTER", type := (.object "java/util/function/BiFunction"), accessFlags := 25, slot := 1, constantValue := 0 }, { name := "IOOBE_FORMATTER", type := (.object "java/util/function/BiFunction"), accessFlags := 25, slot := 2, constantValue := 0 }]
  methods := #[k15m0]
  instanceTypes := #[]
  staticTypes := #[(.object "java/util/function/BiFunction"), (.object "java/util/function/BiFunction"), (.object "java/util/function/BiFunction")]
  resolved := Array.replicate 194 none
  statics := some 2 }

def pool16 : Array CpInfo := pool [(9, u "<init>"), (6, .class_ 18), (1, u "java/lang/Object"), (0, u "()V"), (1, .class_ 23), (1, u "jdk/internal/util/ArraysSupport"), (0, u "LOG2_ARRAY_LONG_INDEX_SCALE"), (0, u "I"), (2, u "U"), (0, u "Ljdk/internal/misc/Unsafe;"), (8, u "BIG_ENDIAN"), (0, u "Z"), (8, u "LOG2_BYTE_BIT_SIZE"), (4, u "LOG2_ARRAY_INT_INDEX_SCALE"), (54, u "JLA"), (0, u "Ljdk/internal/access/JavaLangAccess;"), (11, u "LOG2_ARRAY_BOOLEAN_INDEX_SCALE"), (9, u "LOG2_ARRAY_BYTE_INDEX_SCALE"), (5, u "LOG2_ARRAY_CHAR_INDEX_SCALE"), (5, u "LOG2_ARRAY_SHORT_INDEX_SCALE"), (18, u "LOG2_ARRAY_FLOAT_INDEX_SCALE"), (24, u "LOG2_ARRAY_DOUBLE_INDEX_SCALE"), (89, u "T_BOOLEAN"), (2, u "T_CHAR"), (1, u "T_FLOAT"), (1, u "T_DOUBLE"), (1, u "T_BYTE"), (1, u "T_SHORT"), (1, u "T_INT"), (1, u "T_LONG"), (1, u "SOFT_MAX_ARRAY_LENGTH")] 83

def k16m0 : Method := { name := "<init>", desc := "()V", sig := { parameters := [], returnType := none }, accessFlags := 2, code := none }
/-- jdk/internal/util/ArraysSupport -/
def k16 : Class := { plain "jdk/internal/util/ArraysSupport" (some 0) with
  accessFlags := 33
  interfaces := #[]
  cf := some (fileOf pool16 21 #[] #[{ accessFlags := 2, nameIndex := 9, descriptorIndex := 19, attributes := #[] }] 33 16 #[] #[{ accessFlags := 24, nameIndex := 28, descriptorIndex := 29, attributes := #[] }, { accessFlags := 26, nameIndex := 38, descriptorIndex := 39, attributes := #[] }, { accessFlags := 25, nameIndex := 121, descriptorIndex := 25, attributes := #[] }, { accessFlags := 25, nameIndex := 131, descriptorIndex := 25, attributes := #[] }, { accessFlags := 25, nameIndex := 137, descriptorIndex := 25, attributes := #[] }, { accessFlags := 25, nameIndex := 143, descriptorIndex := 25, attributes := #[] }, { accessFlags := 25, nameIndex := 53, descriptorIndex := 25, attributes := #[] }, { accessFlags := 25, nameIndex := 24, descriptorIndex := 25, attributes := #[] }, { accessFlags := 25, nameIndex := 162, descriptorIndex := 25, attributes := #[] }, { accessFlags := 25, nameIndex := 187, descriptorIndex := 25, attributes := #[] }, { accessFlags := 26, nameIndex := 48, descriptorIndex := 25, attributes := #[] }, { accessFlags := 25, nameIndex := 277, descriptorIndex := 25, attributes := #[] }, { accessFlags := 25, nameIndex := 280, descriptorIndex := 25, attributes := #[] }, { accessFlags := 25, nameIndex := 282, descriptorIndex := 25, attributes := #[] }, { accessFlags := 25, nameIndex := 284, descriptorIndex := 25, attributes := #[] }, { accessFlags := 25, nameIndex := 286, descriptorIndex := 25, attributes := #[] }, { accessFlags := 25, nameIndex := 288, descriptorIndex := 25, attributes := #[] }, { accessFlags := 25, nameIndex := 290, descriptorIndex := 25, attributes := #[] }, { accessFlags := 25, nameIndex := 292, descriptorIndex := 25, attributes := #[] }, { accessFlags := 26, nameIndex := 108, descriptorIndex := 109, attributes := #[] }, { accessFlags := 25, nameIndex := 294, descriptorIndex := 25, attributes := #[] }])
  fields := #[{ name := "U", type := (.object "jdk/internal/misc/Unsafe"), accessFlags := 24, slot := 0, constantValue := 0 }, { name := "BIG_ENDIAN", type := .boolean, accessFlags := 26, slot := 1, constantValue := 0 }, { name := "LOG2_ARRAY_BOOLEAN_INDEX_SCALE", type := .int, accessFlags := 25, slot := 2, constantValue := 0 }, { name := "LOG2_ARRAY_BYTE_INDEX_SCALE", type := .int, accessFlags := 25, slot := 3, constantValue := 0 }, { name := "LOG2_ARRAY_CHAR_INDEX_SCALE", type := .int, accessFlags := 25, slot := 4, constantValue := 0 }, { name := "LOG2_ARRAY_SHORT_INDEX_SCALE", type := .int, accessFlags := 25, slot := 5, constantValue := 0 }, { name := "LOG2_ARRAY_INT_INDEX_SCALE", type := .int, accessFlags := 25, slot := 6, constantValue := 0 }, { name := "LOG2_ARRAY_LONG_INDEX_SCALE", type := .int, accessFlags := 25, slot := 7, constantValue := 0 }, { name := "LOG2_ARRAY_FLOAT_INDEX_SCALE", type := .int, accessFlags := 25, slot := 8, constantValue := 0 }, { name := "LOG2_ARRAY_DOUBLE_INDEX_SCALE", type := .int, accessFlags := 25, slot := 9, constantValue := 0 }, { name := "LOG2_BYTE_BIT_SIZE", type := .int, accessFlags := 26, slot := 10, constantValue := 0 }, { name := "T_BOOLEAN", type := .int, accessFlags := 25, slot := 11, constantValue := 0 }, { name := "T_CHAR", type := .int, accessFlags := 25, slot := 12, constantValue := 0 }, { name := "T_FLOAT", type := .int, accessFlags := 25, slot := 13, constantValue := 0 }, { name := "T_DOUBLE", type := .int, accessFlags := 25, slot := 14, constantValue := 0 }, { name := "T_BYTE", type := .int, accessFlags := 25, slot := 15, constantValue := 0 }, { name := "T_SHORT", type := .int, accessFlags := 25, slot := 16, constantValue := 0 }, { name := "T_INT", type := .int, accessFlags := 25, slot := 17, constantValue := 0 }, { name := "T_LONG", type := .int, accessFlags := 25, slot := 18, constantValue := 0 }, { name := "JLA", type := (.object "jdk/internal/access/JavaLangAccess"), accessFlags := 26, slot := 19, constantValue := 0 }, { name := "SOFT_MAX_ARRAY_LENGTH", type := .int, accessFlags := 25, slot := 20, constantValue := 0 }]
  methods := #[k16m0]
  instanceTypes := #[]
  staticTypes := #[(.object "jdk/internal/misc/Unsafe"), .boolean, .int, .int, .int, .int, .int, .int, .int, .int, .int, .int, .int, .int, .int, .int, .int, .int, .int, (.object "jdk/internal/access/JavaLangAccess"), .int]
  resolved := Array.replicate 378 none
  statics := none }

def pool17 : Array CpInfo := pool [(1, u "java/lang/Cloneable"), (0, .class_ 1), (0, u "java/lang/Object"), (0, .class_ 3)] 3

/-- java/lang/Cloneable -/
def k17 : Class := { plain "java/lang/Cloneable" (some 0) with
  accessFlags := 1537
  interfaces := #[]
  cf := some (fileOf pool17 2 #[] #[] 1537 4 #[] #[])
  fields := #[]
  methods := #[]
  instanceTypes := #[]
  staticTypes := #[]
  resolved := Array.replicate 8 none
  statics := none }

/-- the primitive byte -/
def k18 : Class := { plain "byte" none with kind := .primitive 'B', accessFlags := 0x411 }
/-- [B -/
def k19 : Class := { plain "[B" (some 0) with kind := .array 18 .byte, interfaces := #[17, 2], accessFlags := 1041 }

/-- the primitive char -/
def k20 : Class := { plain "char" none with kind := .primitive 'C', accessFlags := 0x411 }
/-- [C -/
def k21 : Class := { plain "[C" (some 0) with kind := .array 20 .char, interfaces := #[17, 2], accessFlags := 1041 }

/-- the primitive int -/
def k22 : Class := { plain "int" none with kind := .primitive 'I', accessFlags := 0x411 }
/-- [I -/
def k23 : Class := { plain "[I" (some 0) with kind := .array 22 .int, interfaces := #[17, 2], accessFlags := 1041 }

def heap : Heap := #[{ cls := 7, slots := #[.long 0, .int 1, .null, .int 0, .null, .int 0, .int 0], vm := .statics 7 },
  { cls := 13, slots := #[.ref 3, .ref 4, .ref 5, .ref 6, .ref 7, .ref 8, .ref 9, .ref 10, .ref 11, .ref 12, .ref 13, .ref 14, .ref 15, .ref 16, .ref 17, .ref 18, .ref 19, .ref 20, .null], vm := .statics 13 },
  { cls := 15, slots := #[.null, .null, .null], vm := .statics 15 },
  { cls := 13, slots := #[.null, .int 0, .int 0], vm := .none },
  { cls := 13, slots := #[.null, .int 1, .int 0], vm := .none },
  { cls := 13, slots := #[.null, .int 2, .int 0], vm := .none },
  { cls := 13, slots := #[.null, .int 3, .int 0], vm := .none },
  { cls := 13, slots := #[.null, .int 4, .int 0], vm := .none },
  { cls := 13, slots := #[.null, .int 5, .int 0], vm := .none },
  { cls := 13, slots := #[.null, .int 6, .int 0], vm := .none },
  { cls := 13, slots := #[.null, .int 7, .int 0], vm := .none },
  { cls := 13, slots := #[.null, .int 8, .int 0], vm := .none },
  { cls := 13, slots := #[.null, .int 9, .int 0], vm := .none },
  { cls := 13, slots := #[.null, .int 10, .int 0], vm := .none },
  { cls := 13, slots := #[.null, .int 11, .int 0], vm := .none },
  { cls := 13, slots := #[.null, .int 12, .int 0], vm := .none },
  { cls := 13, slots := #[.null, .int 13, .int 0], vm := .none },
  { cls := 13, slots := #[.null, .int 14, .int 0], vm := .none },
  { cls := 13, slots := #[.null, .int 15, .int 0], vm := .none },
  { cls := 13, slots := #[.null, .int 16, .int 0], vm := .none },
  { cls := 13, slots := #[.null, .int 17, .int 0], vm := .none }]
def classes : Array Class := #[k0, k1, k2, k3, k4, k5, k6, k7, k8, k9, k10, k11, k12, k13, k14, k15, k16, k17, k18, k19, k20, k21, k22, k23]
def interned : List (Array UInt16 × Addr) := []
def slotsUsed : Nat := 83
def theMethod : MethodId := ⟨1, 3⟩
def args0 : Array Value := #[.int 1, .int 4, .long 7, .int 7, .int 1, .int 2]
def aboutOver (below : List Frame) : State where
  vm := { classes := classes, interned := interned.toArray }
  heap := heap
  slotsUsed := slotsUsed
  threads := #[{ frames := .invoking theMethod args0 :: below }]
def below0 : List Frame := [.native { method := ⟨0, 0⟩, args := #[] }]
def about1 : State := aboutOver below0
def p0 : Program := .bare "" "" ""
def e0 : Env := launch0.env 0 0 0
theorem w_frames : about1.frames = Frame.invoking theMethod args0 :: below0 := rfl
set_option maxRecDepth 65536 in
theorem w_args : argsFit about1.vm theMethod args0 = true := by decide +kernel
set_option maxRecDepth 65536 in
theorem w_heap : heapFits about1 = true := by decide +kernel
set_option maxRecDepth 65536 in
theorem w_runnable : about1.curStatus? = some .runnable := by decide +kernel
set_option maxRecDepth 65536 in
theorem w_alone : about1.alone = true := by decide +kernel
set_option maxRecDepth 65536 in
theorem w_named : about1.methodNamed? x = some theMethod := by decide +kernel
set_option maxRecDepth 65536 in
theorem w_hears : about1.hears theMethod below0 = true := by decide +kernel
set_option maxRecDepth 65536 in
theorem w_ripe : about1.ripe theMethod args0 below0 = true := by decide +kernel
theorem w_running : about1.status = .running := rfl
set_option maxRecDepth 65536 in
theorem w_room : about1.hasRoom e0.platform room_1 = true :=
  launch0.hasRoom_least _ room_1 (by decide +kernel) (by decide +kernel) (by decide +kernel) (by decide +kernel) (by decide +kernel) (by decide +kernel)
theorem allAtoms_all (ts : List Jvm.Cond) (a : Array Jvm.Value) (st : Jvm.State) : (allAtoms ts).before a st = ts.all (fun c => c.before a st) := by
  induction ts with
  | nil => rfl
  | cons c t ih =>
    show (Jvm.Cond.and c (allAtoms t)).before a st = _
    rw [Jvm.Cond.before_and, ih, List.all_cons]
def words1 : List Jvm.Cond := Jvm.Cond.code x code maxLocals ret :: tables_1
/-- a 'code' word, met by the world's own term for the bytes: nothing is compared byte by byte -/
theorem code_word {y : MethodName} {bytes : ByteArray} {mx : Nat} {rt : Option FieldType} {a : Array Value} {s : State} {m : MethodId} {meth : Method} {c : Code} (h1 : s.methodNamed? y = some m) (h2 : s.vm.method? m = some meth) (h3 : meth.code = some c) (h4 : c.code = bytes)
    (h5 : (c.maxLocals == mx && c.exceptionTable.isEmpty && decide (c.maxStack ≤ mostOperands) && decide (meth.sig.returnType = rt) && !meth.locks && decide (parseMethodDescriptor y.desc = some meth.sig)) = true) : (Jvm.Cond.code y bytes mx rt).before a s = true := by
  simp only [Bool.and_eq_true, beq_iff_eq, Bool.not_eq_true', decide_eq_true_eq] at h5
  obtain ⟨⟨⟨⟨⟨g1, g2⟩, g3⟩, g4⟩, g5⟩, g6⟩ := h5
  simp [Cond.before, Cond.holds, Cond.value, h1, h2, h3, h4, g1, g2, g3, g4, g5, g6]
def isCode : Jvm.Cond → Bool
  | .code _ _ _ _ => true
  | _ => false
theorem all_split {L : List Jvm.Cond} {P : Jvm.Cond → Bool} (h1 : L.all (fun c => isCode c || P c) = true) (h2 : ∀ c ∈ L.filter isCode, P c = true) : L.all P = true := by
  refine List.all_eq_true.mpr fun c hc => ?_
  have h := List.all_eq_true.mp h1 c hc
  rcases Bool.eq_false_or_eq_true (isCode c) with hi | hi
  · exact h2 c (List.mem_filter.mpr ⟨hc, hi⟩)
  · simpa [hi] using h
set_option maxRecDepth 65536 in
theorem w_c0 : (Jvm.Cond.code x code maxLocals ret).before args0 about1 = true := code_word (m := ⟨1, 3⟩) (meth := k1m3) (c := k1c3) (by decide +kernel) rfl rfl rfl (by decide +kernel)
set_option maxRecDepth 65536 in
theorem w_c1 : (Jvm.Cond.code ({ cls := "com/example/stubwright/stubwright/idl/TokenMovedToPinLaw", name := "textOf", desc := "(ICCC)Ljava/lang/String;" } : Jvm.MethodName) method_3_code (4 : Nat) (Option.some (Jvm.ClassFile.FieldType.object "java/lang/String"))).before args0 about1 = true := code_word (m := ⟨1, 2⟩) (meth := k1m2) (c := k1c2) (by decide +kernel) rfl rfl rfl (by decide +kernel)
set_option maxRecDepth 65536 in
theorem w_c2 : (Jvm.Cond.code ({ cls := "java/lang/String", name := "<init>", desc := "([C)V" } : Jvm.MethodName) jdk_42_method_3_code (2 : Nat) (Option.none : Option Jvm.ClassFile.FieldType)).before args0 about1 = true := code_word (m := ⟨7, 1⟩) (meth := k7m1) (c := k7c1) (by decide +kernel) rfl rfl rfl (by decide +kernel)
set_option maxRecDepth 65536 in
theorem w_c3 : (Jvm.Cond.code ({ cls := "java/lang/String", name := "<init>", desc := "([CIILjava/lang/Void;)V" } : Jvm.MethodName) jdk_42_method_149_code (6 : Nat) (Option.none : Option Jvm.ClassFile.FieldType)).before args0 about1 = true := code_word (m := ⟨7, 4⟩) (meth := k7m4) (c := k7c4) (by decide +kernel) rfl rfl rfl (by decide +kernel)
set_option maxRecDepth 65536 in
theorem w_c4 : (Jvm.Cond.code ({ cls := "java/lang/Object", name := "<init>", desc := "()V" } : Jvm.MethodName) object_method_1_code (1 : Nat) (Option.none : Option Jvm.ClassFile.FieldType)).before args0 about1 = true := code_word (m := ⟨0, 0⟩) (meth := k0m0) (c := k0c0) (by decide +kernel) rfl rfl rfl (by decide +kernel)
set_option maxRecDepth 65536 in
theorem w_c5 : (Jvm.Cond.code ({ cls := "java/lang/StringUTF16", name := "compress", desc := "([CII)[B" } : Jvm.MethodName) jdk_52_method_16_code (6 : Nat) (Option.some (Jvm.ClassFile.FieldType.array Jvm.ClassFile.FieldType.byte))).before args0 about1 = true := code_word (m := ⟨8, 2⟩) (meth := k8m2) (c := k8c2) (by decide +kernel) rfl rfl rfl (by decide +kernel)
set_option maxRecDepth 65536 in
theorem w_c6 : (Jvm.Cond.code ({ cls := "java/lang/StringUTF16", name := "compress", desc := "([CI[BII)I" } : Jvm.MethodName) jdk_52_method_21_code (7 : Nat) (Option.some Jvm.ClassFile.FieldType.int)).before args0 about1 = true := code_word (m := ⟨8, 3⟩) (meth := k8m3) (c := k8c3) (by decide +kernel) rfl rfl rfl (by decide +kernel)
set_option maxRecDepth 65536 in
theorem w_c7 : (Jvm.Cond.code ({ cls := "java/lang/StringUTF16", name := "coderFromArrayLen", desc := "([BI)B" } : Jvm.MethodName) jdk_52_method_15_code (2 : Nat) (Option.some Jvm.ClassFile.FieldType.byte)).before args0 about1 = true := code_word (m := ⟨8, 1⟩) (meth := k8m1) (c := k8c1) (by decide +kernel) rfl rfl rfl (by decide +kernel)
set_option maxRecDepth 65536 in
theorem w_c8 : (Jvm.Cond.code ({ cls := "java/lang/String", name := "valueOf", desc := "(C)Ljava/lang/String;" } : Jvm.MethodName) jdk_42_method_139_code (1 : Nat) (Option.some (Jvm.ClassFile.FieldType.object "java/lang/String"))).before args0 about1 = true := code_word (m := ⟨7, 3⟩) (meth := k7m3) (c := k7c3) (by decide +kernel) rfl rfl rfl (by decide +kernel)
set_option maxRecDepth 65536 in
theorem w_c9 : (Jvm.Cond.code ({ cls := "java/lang/StringLatin1", name := "canEncode", desc := "(C)Z" } : Jvm.MethodName) jdk_43_method_3_code (1 : Nat) (Option.some Jvm.ClassFile.FieldType.boolean)).before args0 about1 = true := code_word (m := ⟨9, 1⟩) (meth := k9m1) (c := k9c1) (by decide +kernel) rfl rfl rfl (by decide +kernel)
set_option maxRecDepth 65536 in
theorem w_c10 : (Jvm.Cond.code ({ cls := "java/lang/StringLatin1", name := "toBytes", desc := "(C)[B" } : Jvm.MethodName) jdk_43_method_46_code (1 : Nat) (Option.some (Jvm.ClassFile.FieldType.array Jvm.ClassFile.FieldType.byte))).before args0 about1 = true := code_word (m := ⟨9, 2⟩) (meth := k9m2) (c := k9c2) (by decide +kernel) rfl rfl rfl (by decide +kernel)
set_option maxRecDepth 65536 in
theorem w_c11 : (Jvm.Cond.code ({ cls := "java/lang/String", name := "<init>", desc := "([BB)V" } : Jvm.MethodName) jdk_42_method_151_code (3 : Nat) (Option.none : Option Jvm.ClassFile.FieldType)).before args0 about1 = true := code_word (m := ⟨7, 5⟩) (meth := k7m5) (c := k7c5) (by decide +kernel) rfl rfl rfl (by decide +kernel)
set_option maxRecDepth 65536 in
theorem w_c12 : (Jvm.Cond.code ({ cls := "com/example/stubwright/stubwright/SourcePosition", name := "<init>", desc := "(Ljava/lang/String;II)V" } : Jvm.MethodName) prog_4_method_1_code (4 : Nat) (Option.none : Option Jvm.ClassFile.FieldType)).before args0 about1 = true := code_word (m := ⟨10, 0⟩) (meth := k10m0) (c := k10c0) (by decide +kernel) rfl rfl rfl (by decide +kernel)
set_option maxRecDepth 65536 in
theorem w_c13 : (Jvm.Cond.code ({ cls := "java/util/Objects", name := "requireNonNull", desc := "(Ljava/lang/Object;Ljava/lang/String;)Ljava/lang/Object;" } : Jvm.MethodName) jdk_31_method_11_code (2 : Nat) (Option.some (Jvm.ClassFile.FieldType.object "java/lang/Object"))).before args0 about1 = true := code_word (m := ⟨11, 1⟩) (meth := k11m1) (c := k11c1) (by decide +kernel) rfl rfl rfl (by decide +kernel)
set_option maxRecDepth 65536 in
theorem w_c14 : (Jvm.Cond.code ({ cls := "com/example/stubwright/stubwright/idl/Token", name := "escapedIdentifier", desc := "(Ljava/lang/String;Lcom/example/stubwright/stubwright/SourcePosition;)Lcom/example/stubwright/stubwright/idl/Token;" } : Jvm.MethodName) prog_36_method_3_code (2 : Nat) (Option.some (Jvm.ClassFile.FieldType.object "com/example/stubwright/stubwright/idl/Token"))).before args0 about1 = true := code_word (m := ⟨14, 2⟩) (meth := k14m2) (c := k14c2) (by decide +kernel) rfl rfl rfl (by decide +kernel)
set_option maxRecDepth 65536 in
theorem w_c15 : (Jvm.Cond.code ({ cls := "com/example/stubwright/stubwright/idl/Token", name := "<init>", desc := "(Lcom/example/stubwright/stubwright/idl/Token$Kind;Ljava/lang/String;Lcom/example/stubwright/stubwright/SourcePosition;Z)V" } : Jvm.MethodName) prog_36_method_2_code (5 : Nat) (Option.none : Option Jvm.ClassFile.FieldType)).before args0 about1 = true := code_word (m := ⟨14, 1⟩) (meth := k14m1) (c := k14c1) (by decide +kernel) rfl rfl rfl (by decide +kernel)
set_option maxRecDepth 65536 in
theorem w_c16 : (Jvm.Cond.code ({ cls := "com/example/stubwright/stubwright/idl/Token", name := "movedTo", desc := "(Lcom/example/stubwright/stubwright/SourcePosition;)Lcom/example/stubwright/stubwright/idl/Token;" } : Jvm.MethodName) prog_36_method_4_code (2 : Nat) (Option.some (Jvm.ClassFile.FieldType.object "com/example/stubwright/stubwright/idl/Token"))).before args0 about1 = true := code_word (m := ⟨14, 3⟩) (meth := k14m3) (c := k14c3) (by decide +kernel) rfl rfl rfl (by decide +kernel)
set_option maxRecDepth 65536 in
theorem w_c17 : (Jvm.Cond.code ({ cls := "com/example/stubwright/stubwright/idl/Token", name := "kind", desc := "()Lcom/example/stubwright/stubwright/idl/Token$Kind;" } : Jvm.MethodName) prog_36_method_5_code (1 : Nat) (Option.some (Jvm.ClassFile.FieldType.object "com/example/stubwright/stubwright/idl/Token$Kind"))).before args0 about1 = true := code_word (m := ⟨14, 4⟩) (meth := k14m4) (c := k14c4) (by decide +kernel) rfl rfl rfl (by decide +kernel)
set_option maxRecDepth 65536 in
theorem w_c18 : (Jvm.Cond.code ({ cls := "com/example/stubwright/stubwright/idl/Token", name := "text", desc := "()Ljava/lang/String;" } : Jvm.MethodName) prog_36_method_6_code (1 : Nat) (Option.some (Jvm.ClassFile.FieldType.object "java/lang/String"))).before args0 about1 = true := code_word (m := ⟨14, 5⟩) (meth := k14m5) (c := k14c5) (by decide +kernel) rfl rfl rfl (by decide +kernel)
set_option maxRecDepth 65536 in
theorem w_c19 : (Jvm.Cond.code ({ cls := "java/lang/String", name := "equals", desc := "(Ljava/lang/Object;)Z" } : Jvm.MethodName) jdk_42_method_66_code (3 : Nat) (Option.some Jvm.ClassFile.FieldType.boolean)).before args0 about1 = true := code_word (m := ⟨7, 2⟩) (meth := k7m2) (c := k7c2) (by decide +kernel) rfl rfl rfl (by decide +kernel)
set_option maxRecDepth 65536 in
theorem w_c20 : (Jvm.Cond.code ({ cls := "com/example/stubwright/stubwright/idl/Token", name := "isEscaped", desc := "()Z" } : Jvm.MethodName) prog_36_method_9_code (1 : Nat) (Option.some Jvm.ClassFile.FieldType.boolean)).before args0 about1 = true := code_word (m := ⟨14, 7⟩) (meth := k14m7) (c := k14c7) (by decide +kernel) rfl rfl rfl (by decide +kernel)
set_option maxRecDepth 65536 in
theorem w_c21 : (Jvm.Cond.code ({ cls := "com/example/stubwright/stubwright/idl/Token", name := "position", desc := "()Lcom/example/stubwright/stubwright/SourcePosition;" } : Jvm.MethodName) prog_36_method_7_code (1 : Nat) (Option.some (Jvm.ClassFile.FieldType.object "com/example/stubwright/stubwright/SourcePosition"))).before args0 about1 = true := code_word (m := ⟨14, 6⟩) (meth := k14m6) (c := k14c6) (by decide +kernel) rfl rfl rfl (by decide +kernel)
set_option maxRecDepth 65536 in
theorem w_c22 : (Jvm.Cond.code ({ cls := "com/example/stubwright/stubwright/idl/TokenMovedToPinLaw", name := "kindOf", desc := "(I)Lcom/example/stubwright/stubwright/idl/Token$Kind;" } : Jvm.MethodName) method_2_code (2 : Nat) (Option.some (Jvm.ClassFile.FieldType.object "com/example/stubwright/stubwright/idl/Token$Kind"))).before args0 about1 = true := code_word (m := ⟨1, 1⟩) (meth := k1m1) (c := k1c1) (by decide +kernel) rfl rfl rfl (by decide +kernel)
set_option maxRecDepth 65536 in
theorem w_c23 : (Jvm.Cond.code ({ cls := "com/example/stubwright/stubwright/idl/Token", name := "<init>", desc := "(Lcom/example/stubwright/stubwright/idl/Token$Kind;Ljava/lang/String;Lcom/example/stubwright/stubwright/SourcePosition;)V" } : Jvm.MethodName) prog_36_method_1_code (4 : Nat) (Option.none : Option Jvm.ClassFile.FieldType)).before args0 about1 = true := code_word (m := ⟨14, 0⟩) (meth := k14m0) (c := k14c0) (by decide +kernel) rfl rfl rfl (by decide +kernel)
def codes1 : List Jvm.Cond := [Jvm.Cond.code x code maxLocals ret, Jvm.Cond.code ({ cls := "com/example/stubwright/stubwright/idl/TokenMovedToPinLaw", name := "textOf", desc := "(ICCC)Ljava/lang/String;" } : Jvm.MethodName) method_3_code (4 : Nat) (Option.some (Jvm.ClassFile.FieldType.object "java/lang/String")), Jvm.Cond.code ({ cls := "java/lang/String", name := "<init>", desc := "([C)V" } : Jvm.MethodName) jdk_42_method_3_code (2 : Nat) (Option.none : Option Jvm.ClassFile.FieldType), Jvm.Cond.code ({ cls := "java/lang/String", name := "<init>", desc := "([CIILjava/lang/Void;)V" } : Jvm.MethodName) jdk_42_method_149_code (6 : Nat) (Option.none : Option Jvm.ClassFile.FieldType), Jvm.Cond.code ({ cls := "java/lang/Object", name := "<init>", desc := "()V" } : Jvm.MethodName) object_method_1_code (1 : Nat) (Option.none : Option Jvm.ClassFile.FieldType), Jvm.Cond.code ({ cls := "java/lang/StringUTF16", name := "compress", desc := "([CII)[B" } : Jvm.MethodName) jdk_52_method_16_code (6 : Nat) (Option.some (Jvm.ClassFile.FieldType.array Jvm.ClassFile.FieldType.byte)), Jvm.Cond.code ({ cls := "java/lang/StringUTF16", name := "compress", desc := "([CI[BII)I" } : Jvm.MethodName) jdk_52_method_21_code (7 : Nat) (Option.some Jvm.ClassFile.FieldType.int), Jvm.Cond.code ({ cls := "java/lang/StringUTF16", name := "coderFromArrayLen", desc := "([BI)B" } : Jvm.MethodName) jdk_52_method_15_code (2 : Nat) (Option.some Jvm.ClassFile.FieldType.byte), Jvm.Cond.code ({ cls := "java/lang/String", name := "valueOf", desc := "(C)Ljava/lang/String;" } : Jvm.MethodName) jdk_42_method_139_code (1 : Nat) (Option.some (Jvm.ClassFile.FieldType.object "java/lang/String")), Jvm.Cond.code ({ cls := "java/lang/StringLatin1", name := "canEncode", desc := "(C)Z" } : Jvm.MethodName) jdk_43_method_3_code (1 : Nat) (Option.some Jvm.ClassFile.FieldType.boolean), Jvm.Cond.code ({ cls := "java/lang/StringLatin1", name := "toBytes", desc := "(C)[B" } : Jvm.MethodName) jdk_43_method_46_code (1 : Nat) (Option.some (Jvm.ClassFile.FieldType.array Jvm.ClassFile.FieldType.byte)), Jvm.Cond.code ({ cls := "java/lang/String", name := "<init>", desc := "([BB)V" } : Jvm.MethodName) jdk_42_method_151_code (3 : Nat) (Option.none : Option Jvm.ClassFile.FieldType), Jvm.Cond.code ({ cls := "com/example/stubwright/stubwright/SourcePosition", name := "<init>", desc := "(Ljava/lang/String;II)V" } : Jvm.MethodName) prog_4_method_1_code (4 : Nat) (Option.none : Option Jvm.ClassFile.FieldType), Jvm.Cond.code ({ cls := "java/util/Objects", name := "requireNonNull", desc := "(Ljava/lang/Object;Ljava/lang/String;)Ljava/lang/Object;" } : Jvm.MethodName) jdk_31_method_11_code (2 : Nat) (Option.some (Jvm.ClassFile.FieldType.object "java/lang/Object")), Jvm.Cond.code ({ cls := "com/example/stubwright/stubwright/idl/Token", name := "escapedIdentifier", desc := "(Ljava/lang/String;Lcom/example/stubwright/stubwright/SourcePosition;)Lcom/example/stubwright/stubwright/idl/Token;" } : Jvm.MethodName) prog_36_method_3_code (2 : Nat) (Option.some (Jvm.ClassFile.FieldType.object "com/example/stubwright/stubwright/idl/Token")), Jvm.Cond.code ({ cls := "com/example/stubwright/stubwright/idl/Token", name := "<init>", desc := "(Lcom/example/stubwright/stubwright/idl/Token$Kind;Ljava/lang/String;Lcom/example/stubwright/stubwright/SourcePosition;Z)V" } : Jvm.MethodName) prog_36_method_2_code (5 : Nat) (Option.none : Option Jvm.ClassFile.FieldType), Jvm.Cond.code ({ cls := "com/example/stubwright/stubwright/idl/Token", name := "movedTo", desc := "(Lcom/example/stubwright/stubwright/SourcePosition;)Lcom/example/stubwright/stubwright/idl/Token;" } : Jvm.MethodName) prog_36_method_4_code (2 : Nat) (Option.some (Jvm.ClassFile.FieldType.object "com/example/stubwright/stubwright/idl/Token")), Jvm.Cond.code ({ cls := "com/example/stubwright/stubwright/idl/Token", name := "kind", desc := "()Lcom/example/stubwright/stubwright/idl/Token$Kind;" } : Jvm.MethodName) prog_36_method_5_code (1 : Nat) (Option.some (Jvm.ClassFile.FieldType.object "com/example/stubwright/stubwright/idl/Token$Kind")), Jvm.Cond.code ({ cls := "com/example/stubwright/stubwright/idl/Token", name := "text", desc := "()Ljava/lang/String;" } : Jvm.MethodName) prog_36_method_6_code (1 : Nat) (Option.some (Jvm.ClassFile.FieldType.object "java/lang/String")), Jvm.Cond.code ({ cls := "java/lang/String", name := "equals", desc := "(Ljava/lang/Object;)Z" } : Jvm.MethodName) jdk_42_method_66_code (3 : Nat) (Option.some Jvm.ClassFile.FieldType.boolean), Jvm.Cond.code ({ cls := "com/example/stubwright/stubwright/idl/Token", name := "isEscaped", desc := "()Z" } : Jvm.MethodName) prog_36_method_9_code (1 : Nat) (Option.some Jvm.ClassFile.FieldType.boolean), Jvm.Cond.code ({ cls := "com/example/stubwright/stubwright/idl/Token", name := "position", desc := "()Lcom/example/stubwright/stubwright/SourcePosition;" } : Jvm.MethodName) prog_36_method_7_code (1 : Nat) (Option.some (Jvm.ClassFile.FieldType.object "com/example/stubwright/stubwright/SourcePosition")), Jvm.Cond.code ({ cls := "com/example/stubwright/stubwright/idl/TokenMovedToPinLaw", name := "kindOf", desc := "(I)Lcom/example/stubwright/stubwright/idl/Token$Kind;" } : Jvm.MethodName) method_2_code (2 : Nat) (Option.some (Jvm.ClassFile.FieldType.object "com/example/stubwright/stubwright/idl/Token$Kind")), Jvm.Cond.code ({ cls := "com/example/stubwright/stubwright/idl/Token", name := "<init>", desc := "(Lcom/example/stubwright/stubwright/idl/Token$Kind;Ljava/lang/String;Lcom/example/stubwright/stubwright/SourcePosition;)V" } : Jvm.MethodName) prog_36_method_1_code (4 : Nat) (Option.none : Option Jvm.ClassFile.FieldType)]
set_option maxRecDepth 65536 in
theorem codes_eq : words1.filter isCode = codes1 := rfl
theorem w_codes : ∀ c ∈ words1.filter isCode, c.before args0 about1 = true := by
  rw [codes_eq]
  intro c hc
  simp only [codes1, List.mem_cons, List.not_mem_nil, or_false] at hc
  rcases hc with rfl | rfl | rfl | rfl | rfl | rfl | rfl | rfl | rfl | rfl | rfl | rfl | rfl | rfl | rfl | rfl | rfl | rfl | rfl | rfl | rfl | rfl | rfl | rfl
  · exact w_c0
  · exact w_c1
  · exact w_c2
  · exact w_c3
  · exact w_c4
  · exact w_c5
  · exact w_c6
  · exact w_c7
  · exact w_c8
  · exact w_c9
  · exact w_c10
  · exact w_c11
  · exact w_c12
  · exact w_c13
  · exact w_c14
  · exact w_c15
  · exact w_c16
  · exact w_c17
  · exact w_c18
  · exact w_c19
  · exact w_c20
  · exact w_c21
  · exact w_c22
  · exact w_c23
set_option maxRecDepth 65536 in
theorem w_t1 : (words1.take 24).all (fun c => isCode c || c.before args0 about1) = true := by decide +kernel
set_option maxRecDepth 65536 in
theorem w_t2 : ((words1.drop 24).take 24).all (fun c => isCode c || c.before args0 about1) = true := by decide +kernel
set_option maxRecDepth 65536 in
theorem w_t3 : (((words1.drop 24).drop 24).take 24).all (fun c => isCode c || c.before args0 about1) = true := by decide +kernel
set_option maxRecDepth 65536 in
theorem w_t4 : ((((words1.drop 24).drop 24).drop 24).take 24).all (fun c => isCode c || c.before args0 about1) = true := by decide +kernel
set_option maxRecDepth 65536 in
theorem w_t5 : (((((words1.drop 24).drop 24).drop 24).drop 24).take 24).all (fun c => isCode c || c.before args0 about1) = true := by decide +kernel
set_option maxRecDepth 65536 in
theorem w_t6 : ((((((words1.drop 24).drop 24).drop 24).drop 24).drop 24).take 24).all (fun c => isCode c || c.before args0 about1) = true := by decide +kernel
set_option maxRecDepth 65536 in
theorem w_t7 : ((((((words1.drop 24).drop 24).drop 24).drop 24).drop 24).drop 24).all (fun c => isCode c || c.before args0 about1) = true := by decide +kernel
theorem w_tables : (allAtoms (Jvm.Cond.code x code maxLocals ret :: tables_1)).before args0 about1 = true := by
  rw [allAtoms_all]
  show words1.all (fun c => c.before args0 about1) = true
  refine all_split ?_ w_codes
  rw [← List.take_append_drop 24 words1, List.all_append, w_t1, ← List.take_append_drop 24 (words1.drop 24), List.all_append, w_t2, ← List.take_append_drop 24 ((words1.drop 24).drop 24), List.all_append, w_t3, ← List.take_append_drop 24 (((words1.drop 24).drop 24).drop 24), List.all_append, w_t4, ← List.take_append_drop 24 ((((words1.drop 24).drop 24).drop 24).drop 24), List.all_append, w_t5, ← List.take_append_drop 24 (((((words1.drop 24).drop 24).drop 24).drop 24).drop 24), List.all_append, w_t6, w_t7]
  rfl
set_option maxRecDepth 65536 in
theorem w_rest : rest_1_c.before args0 about1 = true := by decide +kernel
set_option maxRecDepth 65536 in
theorem w_case : (Jvm.Cond.and given_1 narrow_1).before args0 about1 = true := by decide +kernel
set_option maxRecDepth 65536 in
theorem w_consts : constsHeld consts_1 about1 := Jvm.Lit.constsHeldB_iff.mp (by decide +kernel)
theorem w_applies : (headSpec (Jvm.Cond.code x code maxLocals ret :: tables_1) room_1).applies x e0.platform about1 = true :=
  (Spec.applies_iff w_frames).mpr ⟨w_running, w_runnable, w_alone, w_named, w_hears, w_ripe, w_room, w_tables⟩
theorem atStart : AtStart classFile x code maxLocals ret World_1 tables_1 room_1 Calls_1 rest_1 Pre_1 launch0 p0 e0 about1 theMethod args0 below0 :=
  ⟨lists_1, trivial, launch0.admits_env _ _ _, launch0.least_env, fairChoices_fair.cas, fairChoices_fair.clock, w_frames, w_args, w_heap, w_applies, ⟨w_consts, trivial⟩, w_rest, w_case⟩
end start1
theorem witness_1 : WitnessClaimed_1 := ⟨start1.p0, start1.e0, start1.about1, start1.theMethod, start1.args0, start1.below0, start1.atStart⟩
end Jvm.Pilot.@@N@@
