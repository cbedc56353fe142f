import JvmDerived
import JvmDerived.Pilot.@@N@@Statement
import JvmDerived.Pilot.@@N@@Code
set_option linter.unusedVariables false
set_option linter.unusedSimpArgs false
namespace Jvm.Own
open Jvm Jvm.ClassFile Sem Op Lib Jvm.Free Jvm.Stand Jvm.LawKit Jvm.RoadKit Bundle
section Base
variable {p : Program} {l : Launch} {e : Env} {R : Room} {s : State} {m : MethodId} {args : Array Value} {below : List Frame} {meth : Method} {c : Code} {T : State} {locs : List Loc} {cells slots : Nat} {Z : State} {a0 : Array Value} {h : Heap}
/-- from t the run ends, and its end is as Qf says -/
def Go (p : Program) (e : Env) (below : List Frame) (Qf : Outcome → State → Prop) (t : State) : Prop :=
  ∃ s₂ o, Steps p.tables e below t s₂ ∧ s₂.status = .running ∧ Ended s₂ below o ∧ Qf o s₂
theorem Go.step {Qf : Outcome → State → Prop} {t t' : State} (k : ∀ u, Steps p.tables e below t' u → Steps p.tables e below t u) (h : Go p e below Qf t') : Go p e below Qf t := by
  obtain ⟨s₂, o, h1, h2⟩ := h
  exact ⟨s₂, o, k _ h1, h2⟩
theorem own_join {Qf : Outcome → State → Prop} {t t' : State} (h : Go p e below Qf t → Go p e below Qf t') (k : Go p e below Qf t) : Go p e below Qf t' := h k
theorem own_joinA {α : Type} {P : α → Prop} {Qf : Outcome → State → Prop} {t : α → State} {t' : State} (h : (∀ v, P v → Go p e below Qf (t v)) → Go p e below Qf t') (k : ∀ v, P v → Go p e below Qf (t v)) : Go p e below Qf t' := h k
theorem own_top {Qf : Outcome → State → Prop} {pc : Nat} {Ls : Array Slot} {rest : List Value} {a b : Value} (h : a = b) (k : Go p e below Qf (T.setTop (mkF m pc Ls (b :: rest)))) : Go p e below Qf (T.setTop (mkF m pc Ls (a :: rest))) := by subst h; exact k
/-- the end of a narrow walk -/
def QN (s : State) (rm : Room) (Q : Option Value → Heap → List Loc → Prop) (o : Outcome) (U' : State) : Prop := ∃ v L, o = .returned v ∧ Q v U'.heap L ∧ FrameEnd s o U' L rm.cells rm.slots
abbrev CN (l : Launch) (Z : State) (y : MethodName) (ws : List Jvm.Cond) (rm : Room) (as : Array Value) (h0 : Heap) (Q : Option Value → Heap → List Loc → Prop) : Prop :=
  MetFree l y (head1 ws rm) (fun a U => a = as ∧ Z.Warmed39 U.vm ∧ U.heap = h0) (fun _ _ _ _ _ => True) (fun _ U o U' => ∃ v L, o = .returned v ∧ Q v U'.heap L ∧ FrameEnd U o U' L rm.cells rm.slots)
theorem CN.of {y : MethodName} {bytes : ByteArray} {maxL : Nat} {ret : Option FieldType} {ws : List Jvm.Cond} {rm : Room} {as : Array Value} {h0 : Heap} {Q : Option Value → Heap → List Loc → Prop} {L0 : Array Slot}
    (hp : plainFor y = true) (ef : ∀ m, entryFrame m as maxL = mkF m 0 L0 [])
    (body : ∀ (p : Program) (e : Env) (s : State) (m : MethodId) (below : List Frame) (meth : Method) (c : Code) (s₁ : State), p.tables.exec = Jvm.exec → c.code = bytes → c.maxLocals = maxL → meth.sig.returnType = ret → meth.locks = false → Z.Warmed39 s.vm → s.vm.findClass y.cls = some m.cls → meth.name = y.name → Stand p l e rm s m as below meth c s₁ [] 0 0 → s₁.heap = h0 → Go p e below (QN s rm Q) (s₁.setTop (mkF m 0 L0 []))) :
    CN l Z y (Jvm.Cond.code y bytes maxL ret :: ws) rm as h0 Q := by
  refine MetFree.of_bodySF hp hisR ?_
  intro p e s m args below meth c s₁ Bd hml0 hP hK
  obtain ⟨rfl, hZ, hh⟩ := hP
  have q := body p e s m below meth c s₁ Bd.exec Bd.bytes hml0 Bd.returns Bd.notSynchronized hZ (findClass_of_methodNamed Bd.named) (name_of_methodNamed Bd.named Bd.method).1 (Stand.of_body Bd) (by rw [← hh, Bd.state]; rfl)
  rw [← ef m] at q
  exact q
theorem Go.ret {Q : Option Value → Heap → List Loc → Prop} {rm : Room} {t : State} (X : Stand p l e R s m args below meth c T locs cells slots) (hlk : meth.locks = false) (v : Option Value) (hv : meth.sig.returnType = none → v = none) (hc : cells ≤ rm.cells) (hs : slots ≤ rm.slots) (q : Q v T.heap locs)
    (st : ∀ fs, (∀ (f : JFrame) (acts : List Action), f.method = m → f.locked = none → f.entered = [] → (doReturn e (T.setTop f) acts v).1 = T.setFrames fs) → Steps p.tables e below t (T.setFrames fs)) : Go p e below (QN s rm Q) t := by
  obtain ⟨fs, hr, hrun, hended, hW, hsame⟩ := X.leave (v := v) hv hlk
  exact ⟨_, _, st fs hr, hrun, hended, v, locs, rfl, q, ⟨v, rfl⟩, hW, hsame.mono hc hs⟩
/-- a value comes back -/
theorem Go.retV {Q : Option Value → Heap → List Loc → Prop} {rm : Room} (X : Stand p l e R s m args below meth c T locs cells slots) (hx : p.tables.exec = Jvm.exec) (hlk : meth.locks = false) {pc : Nat} {Ls : Array Slot} {w : Value} {t : FieldType} {i : Instr} {rest : List Value} (hret : meth.sig.returnType = some t) (hn : narrow t w = w)
    (hi : (i = .ireturn ∧ (t = .int ∨ t = .boolean ∨ t = .byte ∨ t = .char ∨ t = .short) ∧ ∃ z, w = .int z) ∨ (i = .lreturn ∧ t = .long ∧ ∃ z, w = .long z) ∨ (i = .dreturn ∧ t = .double ∧ ∃ z, w = .double z) ∨ (i = .freturn ∧ t = .float ∧ ∃ z, w = .float z) ∨ (i = .areturn ∧ t.isReference = true ∧ w.isRef = true))
    (hd : decode c.code pc = .ok (i, 1)) (hc : cells ≤ rm.cells) (hs : slots ≤ rm.slots) (q : Q (some w) T.heap locs) : Go p e below (QN s rm Q) (T.setTop (mkF m pc Ls (w :: rest))) :=
  Go.ret X hlk (some w) (fun h => by rw [hret] at h; cases h) hc hs q fun fs hr => retOut X hx hret hn hi hd hr
/-- nothing comes back -/
theorem Go.ret0 {Q : Option Value → Heap → List Loc → Prop} {rm : Room} (X : Stand p l e R s m args below meth c T locs cells slots) (hx : p.tables.exec = Jvm.exec) (hlk : meth.locks = false) {pc : Nat} {Ls : Array Slot} (hret : meth.sig.returnType = none)
    (hd : decode c.code pc = .ok (.return_, 1)) (hc : cells ≤ rm.cells) (hs : slots ≤ rm.slots) (q : Q none T.heap locs) : Go p e below (QN s rm Q) (T.setTop (mkF m pc Ls [])) :=
  Go.ret X hlk none (fun _ => rfl) hc hs q fun fs hr => X.returnOut hx hret hd hr
/-- what pays a call -/
abbrev Pay (l : Launch) (R : Room) (p : Program) (e : Env) (below : List Frame) (s : State) (args : Array Value) (y : MethodName) (W : Nat) (as : Array Value) (h : Heap) (kc ks : Nat) (QQ : Option Value → Heap → List Loc → Prop) : Prop :=
  Back l R p e below s args y 3 W (fun P a => a = as ∧ P.U.heap = h ∧ P.cells + kc ≤ R.cells ∧ P.slots + ks ≤ R.slots) (fun P _ v B => ∃ L, QQ v B.U.heap L ∧ B.locs = P.locs ++ L ∧ B.cells = P.cells + kc ∧ B.slots = P.slots + ks)
theorem goS (X : Stand p l e R s m args below meth c T locs cells slots) (hx : p.tables.exec = Jvm.exec) (hZ : Z.Warmed39 s.vm) {own : String} {index : Nat} {y : MethodName} {bytes : ByteArray} {maxL : Nat} {ret : Option FieldType} (hown : s.vm.findClass own = some m.cls)
    (w1 : (Jvm.Cond.methodLink own index y).before a0 Z = true) (w2 : (Jvm.Cond.static y).before a0 Z = true) (w3 : (Jvm.Cond.initialized y.cls).before a0 Z = true) (w4 : (Jvm.Cond.code y bytes maxL ret).before a0 Z = true) (hy : y.cls ≠ "java/lang/invoke/MethodHandle" ∧ y.cls ≠ "java/lang/invoke/VarHandle")
    {W kc ks : Nat} {as : Array Value} {QQ : Option Value → Heap → List Loc → Prop} (K : Pay l R p e below s args y W as h kc ks QQ) (eT : T.heap = h) {g : JFrame} (hg : g.method = m) (hsize : g.locals.size = c.maxLocals) {argsL rest : List Value} (has : argsL.toArray = as)
    (hlen : ∀ sig, parseMethodDescriptor y.desc = some sig → argsL.length = sig.parameters.length) (hstack : g.stack = argsL.reverse ++ rest) (hW : 2 * g.monitorRoom + (rest.map fun v => v.category).sum ≤ W) (hd : decode c.code g.pc = .ok (.invokestatic index, 3)) (hc : cells + kc ≤ R.cells) (hs : slots + ks ≤ R.slots) :
    ∃ v T' L, Stand p l e R s m args below meth c T' (locs ++ L) (cells + kc) (slots + ks) ∧ QQ v T'.heap L ∧ ∀ u, Steps p.tables e below (T'.setTop { g with pc := g.pc + 3, stack := v.toList ++ rest }) u → Steps p.tables e below (T.setTop g) u := by
  obtain ⟨v, _, ⟨T', L', k', n'⟩, -, X', ⟨L, hQ, l1, y1, z1⟩, st⟩ := Jvm.LawKit.callS X hx hown (mvT hZ w1) (mvT hZ w2) (mvT hZ w3) (mvT hZ w4) hy K hg hsize hlen hstack hW hd (fun _ _ => ⟨has, eT, hc, hs⟩)
  try dsimp only [Pt.U, Pt.locs, Pt.cells, Pt.slots] at X' l1 y1 z1 st hQ
  subst l1 y1 z1
  exact ⟨v, T', L, X', hQ, st⟩
theorem goC (X : Stand p l e R s m args below meth c T locs cells slots) (hx : p.tables.exec = Jvm.exec) (hZ : Z.Warmed39 s.vm) {own : String} {index : Nat} {y : MethodName} {bytes : ByteArray} {maxL : Nat} (hown : s.vm.findClass own = some m.cls)
    (hy1 : y.name = "<init>") (w1 : (Jvm.Cond.methodLink own index y).before a0 Z = true) (w2 : (Jvm.Cond.instanceMethod y).before a0 Z = true) (w4 : (Jvm.Cond.code y bytes maxL none).before a0 Z = true) (hy : y.cls ≠ "java/lang/invoke/MethodHandle" ∧ y.cls ≠ "java/lang/invoke/VarHandle")
    {W kc ks : Nat} {as : Array Value} {QQ : Option Value → Heap → List Loc → Prop} (K : Pay l R p e below s args y W as h kc ks QQ) (eT : T.heap = h) {g : JFrame} (hg : g.method = m) (hsize : g.locals.size = c.maxLocals) {a : Addr} {argsL rest : List Value} (has : (.ref a :: argsL).toArray = as)
    (hlen : ∀ sig, parseMethodDescriptor y.desc = some sig → argsL.length = sig.parameters.length) (hstack : g.stack = argsL.reverse ++ .ref a :: rest) (hW : 2 * g.monitorRoom + (rest.map fun v => v.category).sum ≤ W) (hd : decode c.code g.pc = .ok (.invokespecial index, 3)) (hc : cells + kc ≤ R.cells) (hs : slots + ks ≤ R.slots) :
    ∃ v T' L, Stand p l e R s m args below meth c T' (locs ++ L) (cells + kc) (slots + ks) ∧ QQ v T'.heap L ∧ ∀ u, Steps p.tables e below (T'.setTop { g with pc := g.pc + 3, stack := v.toList ++ rest }) u → Steps p.tables e below (T.setTop g) u := by
  obtain ⟨v, _, ⟨T', L', k', n'⟩, -, X', ⟨L, hQ, l1, y1, z1⟩, st⟩ := X.specialBack hx hy1 hown (mvT hZ w1) (mvT hZ w2) (mvT hZ w4) hy K hg hsize (Steps.refl _) hlen hstack hW hd (fun _ _ => ⟨has, eT, hc, hs⟩)
  try dsimp only [Pt.U, Pt.locs, Pt.cells, Pt.slots] at X' l1 y1 z1 st hQ
  subst l1 y1 z1
  exact ⟨v, T', L, X', hQ, fun u k => st.trans k⟩
theorem goV (X : Stand p l e R s m args below meth c T locs cells slots) (hx : p.tables.exec = Jvm.exec) (hZ : Z.Warmed39 s.vm) {own C : String} {index : Nat} {y z : MethodName} (hown : s.vm.findClass own = some m.cls)
    (w1 : (Jvm.Cond.methodLink own index y).before a0 Z = true) (w2 : (Jvm.Cond.declares y).before a0 Z = true) (hnf : NotFace s y) (w3 : (Jvm.Cond.selects C y z).before a0 Z = true) (w4 : (Jvm.Cond.instanceMethod z).before a0 Z = true) (hy : y.cls ≠ "java/lang/invoke/MethodHandle" ∧ y.cls ≠ "java/lang/invoke/VarHandle")
    {W kc ks : Nat} {as : Array Value} {QQ : Option Value → Heap → List Loc → Prop} (K : Pay l R p e below s args z W as h kc ks QQ) (eT : T.heap = h) {a : Addr} (E : Exa Z h a C) {g : JFrame} (hg : g.method = m) (hsize : g.locals.size = c.maxLocals) {argsL rest : List Value} (has : (.ref a :: argsL).toArray = as)
    (hlen : ∀ sig, parseMethodDescriptor y.desc = some sig → argsL.length = sig.parameters.length) (hstack : g.stack = argsL.reverse ++ .ref a :: rest) (hW : 2 * g.monitorRoom + (rest.map fun v => v.category).sum ≤ W) (hd : decode c.code g.pc = .ok (.invokevirtual index, 3)) (hc : cells + kc ≤ R.cells) (hs : slots + ks ≤ R.slots) :
    ∃ v T' L, Stand p l e R s m args below meth c T' (locs ++ L) (cells + kc) (slots + ks) ∧ QQ v T'.heap L ∧ ∀ u, Steps p.tables e below (T'.setTop { g with pc := g.pc + 3, stack := v.toList ++ rest }) u → Steps p.tables e below (T.setTop g) u := by
  obtain ⟨cB, kB, q1, q2, q3⟩ := isOf hZ eT E
  obtain ⟨v, _, ⟨T', L', k', n'⟩, -, X', ⟨L, hQ, l1, y1, z1⟩, st⟩ := X.virtualBack hx hown (mvT hZ w1) (mvT hZ w2) hnf (mvT hZ w3) (mvT hZ w4) hy K q1 q3 hg hsize (Steps.refl _) hlen hstack hW hd (fun _ _ => ⟨has, eT, hc, hs⟩)
  try dsimp only [Pt.U, Pt.locs, Pt.cells, Pt.slots] at X' l1 y1 z1 st hQ
  subst l1 y1 z1
  exact ⟨v, T', L, X', hQ, fun u k => st.trans k⟩
/-- .. whose named class does not declare it -/
theorem goU (X : Stand p l e R s m args below meth c T locs cells slots) (hx : p.tables.exec = Jvm.exec) (hZ : Z.Warmed39 s.vm) {own C owner : String} {index : Nat} {y z : MethodName} (hown : s.vm.findClass own = some m.cls)
    (w1 : (Jvm.Cond.methodLink own index y).before a0 Z = true) (w5 : (Jvm.Cond.sameMethod y.cls owner y.name y.desc).before a0 Z = true) (w2 : (Jvm.Cond.declares ⟨owner, y.name, y.desc⟩).before a0 Z = true) (w3 : (Jvm.Cond.selects C y z).before a0 Z = true) (w4 : (Jvm.Cond.instanceMethod z).before a0 Z = true) (hy : owner ≠ "java/lang/invoke/MethodHandle" ∧ owner ≠ "java/lang/invoke/VarHandle")
    {W kc ks : Nat} {as : Array Value} {QQ : Option Value → Heap → List Loc → Prop} (K : Pay l R p e below s args z W as h kc ks QQ) (eT : T.heap = h) {a : Addr} (E : Exa Z h a C) {g : JFrame} (hg : g.method = m) (hsize : g.locals.size = c.maxLocals) {argsL rest : List Value} (has : (.ref a :: argsL).toArray = as)
    (hlen : ∀ sig, parseMethodDescriptor y.desc = some sig → argsL.length = sig.parameters.length) (hstack : g.stack = argsL.reverse ++ .ref a :: rest) (hW : 2 * g.monitorRoom + (rest.map fun v => v.category).sum ≤ W) (hd : decode c.code g.pc = .ok (.invokevirtual index, 3)) (hc : cells + kc ≤ R.cells) (hs : slots + ks ≤ R.slots) :
    ∃ v T' L, Stand p l e R s m args below meth c T' (locs ++ L) (cells + kc) (slots + ks) ∧ QQ v T'.heap L ∧ ∀ u, Steps p.tables e below (T'.setTop { g with pc := g.pc + 3, stack := v.toList ++ rest }) u → Steps p.tables e below (T.setTop g) u := by
  obtain ⟨cB, kB, q1, q2, q3⟩ := isOf hZ eT E
  obtain ⟨v, _, ⟨T', L', k', n'⟩, -, X', ⟨L, hQ, l1, y1, z1⟩, st⟩ := X.virtualBackUp hx hown (mvT hZ w1) (mvT hZ w5) (mvT hZ w2) hy (mvT hZ w3) (mvT hZ w4) K q1 q3 hg hsize (Steps.refl _) hlen hstack hW hd (fun _ _ => ⟨has, eT, hc, hs⟩)
  try dsimp only [Pt.U, Pt.locs, Pt.cells, Pt.slots] at X' l1 y1 z1 st hQ
  subst l1 y1 z1
  exact ⟨v, T', L, X', hQ, fun u k => st.trans k⟩
/-- a private method by invokevirtual -/
theorem goP (X : Stand p l e R s m args below meth c T locs cells slots) (hx : p.tables.exec = Jvm.exec) (hZ : Z.Warmed39 s.vm) {own C : String} {index : Nat} {y : MethodName} {bytes : ByteArray} {maxL : Nat} {ret : Option FieldType} (hown : s.vm.findClass own = some m.cls)
    (w1 : (Jvm.Cond.methodLink own index y).before a0 Z = true) (w2 : (Jvm.Cond.instanceMethod y).before a0 Z = true) (w3 : (Jvm.Cond.selects y.cls y y).before a0 Z = true) (w5 : (Jvm.Cond.privateMethod y).before a0 Z = true) (w4 : (Jvm.Cond.code y bytes maxL ret).before a0 Z = true) (hy : y.cls ≠ "java/lang/invoke/MethodHandle" ∧ y.cls ≠ "java/lang/invoke/VarHandle")
    {W kc ks : Nat} {as : Array Value} {QQ : Option Value → Heap → List Loc → Prop} (K : Pay l R p e below s args y W as h kc ks QQ) (eT : T.heap = h) {a : Addr} (E : Exa Z h a C) {g : JFrame} (hg : g.method = m) (hsize : g.locals.size = c.maxLocals) {argsL rest : List Value} (has : (.ref a :: argsL).toArray = as)
    (hlen : ∀ sig, parseMethodDescriptor y.desc = some sig → argsL.length = sig.parameters.length) (hstack : g.stack = argsL.reverse ++ .ref a :: rest) (hW : 2 * g.monitorRoom + (rest.map fun v => v.category).sum ≤ W) (hd : decode c.code g.pc = .ok (.invokevirtual index, 3)) (hc : cells + kc ≤ R.cells) (hs : slots + ks ≤ R.slots) :
    ∃ v T' L, Stand p l e R s m args below meth c T' (locs ++ L) (cells + kc) (slots + ks) ∧ QQ v T'.heap L ∧ ∀ u, Steps p.tables e below (T'.setTop { g with pc := g.pc + 3, stack := v.toList ++ rest }) u → Steps p.tables e below (T.setTop g) u := by
  obtain ⟨cq, q1, q2⟩ := E.cell
  obtain ⟨v, _, ⟨T', L', k', n'⟩, -, X', ⟨L, hQ, l1, y1, z1⟩, st⟩ := X.privateBack hx hown (mvT hZ w1) (mvT hZ w2) (mvT hZ w3) (Cond.privateMethod_at (mvP hZ w5 (args := #[]))) (mvT hZ w4) hy K hg hsize (Steps.refl _) (by rw [eT]; exact q1) q2 hlen hstack hW hd (fun _ _ => ⟨has, eT, hc, hs⟩)
  try dsimp only [Pt.U, Pt.locs, Pt.cells, Pt.slots] at X' l1 y1 z1 st hQ
  subst l1 y1 z1
  exact ⟨v, T', L, X', hQ, fun u k => st.trans k⟩
theorem lremM {g : JFrame} {target : State} (X : Stand p l e R s m args below meth c T locs cells slots) (hx : p.tables.exec = Jvm.exec) (hg : g.method = m) {x y : Int64} {rest : List Value} (hd : decode c.code g.pc = .ok (.lrem, 1)) (hs : g.stack = .long y :: .long x :: rest) (hy : y ≠ 0)
    (hr : Steps p.tables e below (T.setTop { g with pc := g.pc + 1, stack := .long (x % y) :: rest }) target) : Steps p.tables e below (T.setTop g) target :=
  XS.lrem X.here hx hg hd hs hy (by rw [lrem_mod]; exact hr)
theorem own_narrow_ref {t : FieldType} {v : Value} (h : v.isRef = true) : narrow t v = v := by cases v <;> first | (simp [Value.isRef] at h; done) | (cases t <;> rfl)
theorem own_fits_ref {C : String} {v : Value} (h : v.isRef = true) : fits (.object C) v = true := by cases v <;> simp_all [Value.isRef, fits]
/-- what the case's words say of a static -/
theorem sta_obj {C n d K : String} (hi : (Jvm.Cond.initializedFor C n d).before args s = true ∨ ((Jvm.Cond.initialized C).before args s = true ∧ (Jvm.Cond.laysStatic C n d).before args s = true)) (hx : (Jvm.Cond.exactly (.static C n d) K).value args s none s [] = some true) :
    ∃ a, Sta s s.heap C n d (.ref a) ∧ Exa s s.heap a K ∧ (Term.static C n d).eval args s none [] s = some (.ref a) := by
  obtain ⟨a, e⟩ := exa_v hx
  exact ⟨a, Sta.start e hi, Exa.start e hx, e⟩
theorem fld_l {t : Term} {a : Addr} {C f d : String} {v : Int64} (ev : t.eval args s none [] s = some (.ref a)) (h : (Jvm.Cond.eq (.field t C f d) (.long v)).value args s none s [] = some true) : Fld s s.heap a C f d (.long v) :=
  Fld.start (by rw [← fld_at ev]; exact eqv_l (long_at v) h)
theorem fld_i {t : Term} {a : Addr} {C f d : String} {v : Int32} (ev : t.eval args s none [] s = some (.ref a)) (h : (Jvm.Cond.eq (.field t C f d) (.int v)).value args s none s [] = some true) : Fld s s.heap a C f d (.int v) :=
  Fld.start (by rw [← fld_at ev]; exact eqv_i (Term.int_eval v) h)
theorem b01_ne {P : Prop} [Decidable P] (q : P) : ¬ (if P then (1 : Int32) else 0) = 0 := by rw [if_pos q]; decide
theorem b01_eq {P : Prop} [Decidable P] (q : ¬ P) : (if P then (1 : Int32) else 0) = 0 := if_neg q
theorem b01_nar {P : Prop} [Decidable P] : narrow .boolean (.int (if P then (1 : Int32) else 0)) = .int (if P then (1 : Int32) else 0) := by split <;> rfl
end Base
end Jvm.Own
namespace Jvm.Own
open Jvm Jvm.ClassFile Sem Op Lib Jvm.Free Jvm.Stand Jvm.LawKit Jvm.RoadKit Bundle
section Wide
variable {p : Program} {l : Launch} {e : Env} {R : Room} {s : State} {m : MethodId} {args : Array Value} {below : List Frame} {meth : Method} {c : Code} {T : State} {locs : List Loc} {cells slots : Nat} {Z : State} {a0 : Array Value} {h h0 : Heap} {EL : List (String × Nat)} {vm0 : Vm} {k0 : Nat}
/-- the end of a walk that may intern -/
def QW (Z : State) (EL : List (String × Nat)) (s : State) (rm : Room) (Q : Option Value → Heap → List Loc → Prop) (o : Outcome) (U' : State) : Prop := ∃ v L, o = .returned v ∧ Q v U'.heap L ∧ CHr Z EL s.vm s.heap U'.vm U'.heap ∧ ReturnedEndW s o U' L rm.cells rm.slots
abbrev CW (l : Launch) (Z : State) (EL : List (String × Nat)) (y : MethodName) (ws : List Jvm.Cond) (rm : Room) (as : Array Value) (h0 : Heap) (Q : Option Value → Heap → List Loc → Prop) : Prop :=
  MetFree l y (head1 ws rm) (fun a U => a = as ∧ Z.Warmed39 U.vm ∧ U.heap = h0 ∧ CHv Z EL U.vm h0) (fun _ _ _ _ _ => True) (fun _ U o U' => ∃ v L, o = .returned v ∧ Q v U'.heap L ∧ CHr Z EL U.vm U.heap U'.vm U'.heap ∧ ReturnedEndW U o U' L rm.cells rm.slots)
theorem CW.of {y : MethodName} {bytes : ByteArray} {maxL : Nat} {ret : Option FieldType} {ws : List Jvm.Cond} {rm : Room} {as : Array Value} {Q : Option Value → Heap → List Loc → Prop} {L0 : Array Slot}
    (hp : plainFor y = true) (ef : ∀ m, entryFrame m as maxL = mkF m 0 L0 [])
    (body : ∀ (p : Program) (e : Env) (s : State) (m : MethodId) (below : List Frame) (meth : Method) (c : Code) (s₁ : State), p.tables.exec = Jvm.exec → c.code = bytes → c.maxLocals = maxL → meth.sig.returnType = ret → meth.locks = false → Z.Warmed39 s.vm → s.vm.findClass y.cls = some m.cls → meth.name = y.name → Stand p l e rm (s.setVm s.vm) m as below meth c s₁ [] 0 0 → s₁.heap = h0 → s.Since s.vm h0.size → h0.size ≤ h0.size → CHv Z EL s.vm h0 → s.heap = h0 → Go p e below (QW Z EL s rm Q) (s₁.setTop (mkF m 0 L0 []))) :
    CW l Z EL y (Jvm.Cond.code y bytes maxL ret :: ws) rm as h0 Q := by
  refine MetFree.of_bodySF hp hisR ?_
  intro p e s m args below meth c s₁ Bd hml0 hP hK
  obtain ⟨rfl, hZ, hh, hC⟩ := hP
  have q := body p e s m below meth c s₁ Bd.exec Bd.bytes hml0 Bd.returns Bd.notSynchronized hZ (findClass_of_methodNamed Bd.named) (name_of_methodNamed Bd.named Bd.method).1 (Stand.of_body Bd) (by rw [← hh, Bd.state]; rfl) (State.WarmedH.since (State.WarmedH.refl s) _) (Nat.le_refl _) hC hh
  rw [← ef m] at q
  exact q
theorem Go.retW {Q : Option Value → Heap → List Loc → Prop} {rm : Room} {t : State} (X : Stand p l e R (s.setVm vm0) m args below meth c T locs cells slots) (eT : T.heap = h) (hS : s.Since vm0 k0) (hk : k0 ≤ h.size) (hZ : Z.Warmed39 vm0) (hEL : EW Z a0 EL) (hh0 : s.heap = h0) (HC : CHr Z EL s.vm h0 vm0 h) (hlk : meth.locks = false) (v : Option Value) (hv : meth.sig.returnType = none → v = none) (hc : cells ≤ rm.cells) (hs : slots ≤ rm.slots) (q : Q v T.heap locs)
    (st : ∀ fs, (∀ (f : JFrame) (acts : List Action), f.method = m → f.locked = none → f.entered = [] → (doReturn e (T.setTop f) acts v).1 = T.setFrames fs) → Steps p.tables e below t (T.setFrames fs)) : Go p e below (QW Z EL s rm Q) t := by
  subst eT hh0
  obtain ⟨fs, hr, hrun, hended, hR⟩ := X.leaveW hS hk (v := v) hv hlk
  have q2 : CHr Z EL vm0 T.heap T.vm T.heap := CHv.at X hZ hEL HC.1
  exact ⟨_, _, st fs hr, hrun, hended, v, locs, rfl, q, HC.trans q2, hR.1, hR.2.1, hR.2.2.1, hR.2.2.2.mono hc hs⟩
theorem Go.retVW {Q : Option Value → Heap → List Loc → Prop} {rm : Room} (X : Stand p l e R (s.setVm vm0) m args below meth c T locs cells slots) (eT : T.heap = h) (hS : s.Since vm0 k0) (hk : k0 ≤ h.size) (hZ : Z.Warmed39 vm0) (hEL : EW Z a0 EL) (hh0 : s.heap = h0) (HC : CHr Z EL s.vm h0 vm0 h) (hx : p.tables.exec = Jvm.exec) (hlk : meth.locks = false) {pc : Nat} {Ls : Array Slot} {w : Value} {t : FieldType} {i : Instr} {rest : List Value} (hret : meth.sig.returnType = some t) (hn : narrow t w = w)
    (hi : (i = .ireturn ∧ (t = .int ∨ t = .boolean ∨ t = .byte ∨ t = .char ∨ t = .short) ∧ ∃ z, w = .int z) ∨ (i = .lreturn ∧ t = .long ∧ ∃ z, w = .long z) ∨ (i = .dreturn ∧ t = .double ∧ ∃ z, w = .double z) ∨ (i = .freturn ∧ t = .float ∧ ∃ z, w = .float z) ∨ (i = .areturn ∧ t.isReference = true ∧ w.isRef = true))
    (hd : decode c.code pc = .ok (i, 1)) (hc : cells ≤ rm.cells) (hs : slots ≤ rm.slots) (q : Q (some w) T.heap locs) : Go p e below (QW Z EL s rm Q) (T.setTop (mkF m pc Ls (w :: rest))) :=
  Go.retW X eT hS hk hZ hEL hh0 HC hlk (some w) (fun h => by rw [hret] at h; cases h) hc hs q fun fs hr => retOut X hx hret hn hi hd hr
theorem Go.ret0W {Q : Option Value → Heap → List Loc → Prop} {rm : Room} (X : Stand p l e R (s.setVm vm0) m args below meth c T locs cells slots) (eT : T.heap = h) (hS : s.Since vm0 k0) (hk : k0 ≤ h.size) (hZ : Z.Warmed39 vm0) (hEL : EW Z a0 EL) (hh0 : s.heap = h0) (HC : CHr Z EL s.vm h0 vm0 h) (hx : p.tables.exec = Jvm.exec) (hlk : meth.locks = false) {pc : Nat} {Ls : Array Slot} (hret : meth.sig.returnType = none)
    (hd : decode c.code pc = .ok (.return_, 1)) (hc : cells ≤ rm.cells) (hs : slots ≤ rm.slots) (q : Q none T.heap locs) : Go p e below (QW Z EL s rm Q) (T.setTop (mkF m pc Ls [])) :=
  Go.retW X eT hS hk hZ hEL hh0 HC hlk none (fun _ => rfl) hc hs q fun fs hr => X.returnOut hx hret hd hr
/-- a String whose value isn't set yet is no booked one -/
theorem own_safe_null {x : Addr} {k : Nat} {vm : Vm} (hal : Z.vm.Alike vm) (E : Exa Z h x "java/lang/String") (F : Fld Z h x "java/lang/String" "value" "[B" .null) (wi : (Jvm.Cond.instantiable "java/lang/String" k).before a0 Z = true) : Safe Z EL vm h x := fun B => by
  obtain ⟨p, -, u, a, -, q, -, G, rfl | rfl⟩ := B
  · obtain ⟨cell, cf, k1, i, f, e1, e2, e3, e4, e5, e6, e7⟩ := F
    cases (show h[q.sa]? = some q.sC from G.ha).symm.trans e1
    obtain ⟨cS, ⟨⟨s1, s2, s3, ⟨cv, kv, iv, s4, s4'⟩, ⟨cc, kc, ic, s5, s5'⟩, s6, s7, s8, s9, r⟩, hfS, hcS⟩, r2⟩ := G
    obtain ⟨kv', z4⟩ := ff_back (U := Wst Z vm h) hal s4
    have e8 := e2.symm.trans z4
    simp only [Option.some.injEq, Prod.mk.injEq] at e8
    rw [e8.2.2.2, s8] at e7
    cases e7
  · obtain ⟨cell, k1, e1, e2, e3, -, -⟩ := E
    cases (show h[q.sd]? = some q.SA from G.hd).symm.trans e1
    obtain ⟨cS, -, -, f, -⟩ := G
    have f : vm.findClass "[B" = some q.SA.cls := f
    rw [hal.findClass] at f
    obtain ⟨k2, q1, q2⟩ := Vm.findClass_spec f
    obtain ⟨k3, q3, q4⟩ := Vm.findClass_spec e2
    cases q1.symm.trans q3
    exact absurd (q2.symm.trans q4) (by decide)
abbrev PayW (l : Launch) (R : Room) (p : Program) (e : Env) (below : List Frame) (Z : State) (EL : List (String × Nat)) (s : State) (vm0 : Vm) (args : Array Value) (y : MethodName) (W : Nat) (as : Array Value) (h : Heap) (kc ks : Nat) (QQ : Option Value → Heap → List Loc → Prop) : Prop :=
  BackS l R p e below (s.setVm vm0) args y 3 W (fun P a => a = as ∧ P.U.heap = h ∧ P.cells + kc ≤ R.cells ∧ P.slots + ks ≤ R.slots) (fun P _ v B => ∃ L, QQ v B.U.heap L ∧ B.locs = P.locs ++ L ∧ B.cells = P.cells + kc ∧ B.slots = P.slots + ks ∧ CHr Z EL vm0 h B.U.vm B.U.heap)
/-- what stands behind a call that may intern -/
abbrev AftW (p : Program) (l : Launch) (e : Env) (R : Room) (s : State) (m : MethodId) (args : Array Value) (below : List Frame) (meth : Method) (c : Code) (T : State) (locs : List Loc) (cells slots : Nat) (Z : State) (EL : List (String × Nat)) (vm0 : Vm) (h : Heap) (own : String) (kc ks : Nat) (QQ : Option Value → Heap → List Loc → Prop) (g : JFrame) (rest : List Value) : Prop :=
  ∃ v T' L, Stand p l e R (s.setVm T'.vm) m args below meth c T' (locs ++ L) (cells + kc) (slots + ks) ∧ QQ v T'.heap L ∧ s.Since T'.vm T'.heap.size ∧ Z.Warmed39 T'.vm ∧ T'.vm.findClass own = some m.cls ∧ CHr Z EL vm0 h T'.vm T'.heap ∧ ∀ u, Steps p.tables e below (T'.setTop { g with pc := g.pc + 3, stack := v.toList ++ rest }) u → Steps p.tables e below (T.setTop g) u
theorem goSW (X : Stand p l e R (s.setVm vm0) m args below meth c T locs cells slots) (hx : p.tables.exec = Jvm.exec) (hZ : Z.Warmed39 vm0) {own : String} {index : Nat} {y : MethodName} {bytes : ByteArray} {maxL : Nat} {ret : Option FieldType} (hown : vm0.findClass own = some m.cls) (hS : s.Since vm0 k0) (hk : k0 ≤ h.size)
    (w1 : (Jvm.Cond.methodLink own index y).before a0 Z = true) (w2 : (Jvm.Cond.static y).before a0 Z = true) (w3 : (Jvm.Cond.initialized y.cls).before a0 Z = true) (w4 : (Jvm.Cond.code y bytes maxL ret).before a0 Z = true) (hy : y.cls ≠ "java/lang/invoke/MethodHandle" ∧ y.cls ≠ "java/lang/invoke/VarHandle")
    {W kc ks : Nat} {as : Array Value} {QQ : Option Value → Heap → List Loc → Prop} (K : PayW l R p e below Z EL s vm0 args y W as h kc ks QQ) (eT : T.heap = h) {g : JFrame} (hg : g.method = m) (hsize : g.locals.size = c.maxLocals) {argsL rest : List Value} (has : argsL.toArray = as)
    (hlen : ∀ sig, parseMethodDescriptor y.desc = some sig → argsL.length = sig.parameters.length) (hstack : g.stack = argsL.reverse ++ rest) (hW : 2 * g.monitorRoom + (rest.map fun v => v.category).sum ≤ W) (hd : decode c.code g.pc = .ok (.invokestatic index, 3)) (hc : cells + kc ≤ R.cells) (hs : slots + ks ≤ R.slots) :
    AftW p l e R s m args below meth c T locs cells slots Z EL vm0 h own kc ks QQ g rest := by
  subst eT
  obtain ⟨v, _, ⟨T', L', k', n'⟩, -, X', h2, gl, ⟨L, hQ, l1, y1, z1, hC⟩, st⟩ := callSS X hx hown (mvT (s := s.setVm vm0) hZ w1) (mvT (s := s.setVm vm0) hZ w2) (mvT (s := s.setVm vm0) hZ w3) (mvT (s := s.setVm vm0) hZ w4) hy K hg hsize hlen hstack hW hd (fun _ _ => ⟨has, rfl, hc, hs⟩)
  try dsimp only [Pt.U, Pt.locs, Pt.cells, Pt.slots] at X' l1 y1 z1 st hQ h2 gl hC
  subst l1 y1 z1
  obtain ⟨a1, a2, a3, a4⟩ := rebS hS hk X' h2 gl hZ hown
  exact ⟨v, T', L, a1, hQ, a2, a3, a4, hC, fun u k => st.trans k⟩
theorem goCW (X : Stand p l e R (s.setVm vm0) m args below meth c T locs cells slots) (hx : p.tables.exec = Jvm.exec) (hZ : Z.Warmed39 vm0) {own : String} {index : Nat} {y : MethodName} {bytes : ByteArray} {maxL : Nat} (hown : vm0.findClass own = some m.cls) (hS : s.Since vm0 k0) (hk : k0 ≤ h.size)
    (hy1 : y.name = "<init>") (w1 : (Jvm.Cond.methodLink own index y).before a0 Z = true) (w2 : (Jvm.Cond.instanceMethod y).before a0 Z = true) (w4 : (Jvm.Cond.code y bytes maxL none).before a0 Z = true) (hy : y.cls ≠ "java/lang/invoke/MethodHandle" ∧ y.cls ≠ "java/lang/invoke/VarHandle")
    {W kc ks : Nat} {as : Array Value} {QQ : Option Value → Heap → List Loc → Prop} (K : PayW l R p e below Z EL s vm0 args y W as h kc ks QQ) (eT : T.heap = h) {g : JFrame} (hg : g.method = m) (hsize : g.locals.size = c.maxLocals) {a : Addr} {argsL rest : List Value} (has : (.ref a :: argsL).toArray = as)
    (hlen : ∀ sig, parseMethodDescriptor y.desc = some sig → argsL.length = sig.parameters.length) (hstack : g.stack = argsL.reverse ++ .ref a :: rest) (hW : 2 * g.monitorRoom + (rest.map fun v => v.category).sum ≤ W) (hd : decode c.code g.pc = .ok (.invokespecial index, 3)) (hc : cells + kc ≤ R.cells) (hs : slots + ks ≤ R.slots) :
    AftW p l e R s m args below meth c T locs cells slots Z EL vm0 h own kc ks QQ g rest := by
  subst eT
  obtain ⟨v, _, ⟨T', L', k', n'⟩, -, X', h2, gl, ⟨L, hQ, l1, y1, z1, hC⟩, st⟩ := X.specialBackS hx hy1 hown (mvT (s := s.setVm vm0) hZ w1) (mvT (s := s.setVm vm0) hZ w2) (mvT (s := s.setVm vm0) hZ w4) hy K hg hsize (Steps.refl _) hlen hstack hW hd (fun _ _ => ⟨has, rfl, hc, hs⟩)
  try dsimp only [Pt.U, Pt.locs, Pt.cells, Pt.slots] at X' l1 y1 z1 st hQ h2 gl hC
  subst l1 y1 z1
  obtain ⟨a1, a2, a3, a4⟩ := rebS hS hk X' h2 gl hZ hown
  exact ⟨v, T', L, a1, hQ, a2, a3, a4, hC, fun u k => st.trans k⟩
theorem goVW (X : Stand p l e R (s.setVm vm0) m args below meth c T locs cells slots) (hx : p.tables.exec = Jvm.exec) (hZ : Z.Warmed39 vm0) {own C : String} {index : Nat} {y z : MethodName} (hown : vm0.findClass own = some m.cls) (hS : s.Since vm0 k0) (hk : k0 ≤ h.size)
    (w1 : (Jvm.Cond.methodLink own index y).before a0 Z = true) (w2 : (Jvm.Cond.declares y).before a0 Z = true) (hnf : NotFace (s.setVm vm0) y) (w3 : (Jvm.Cond.selects C y z).before a0 Z = true) (w4 : (Jvm.Cond.instanceMethod z).before a0 Z = true) (hy : y.cls ≠ "java/lang/invoke/MethodHandle" ∧ y.cls ≠ "java/lang/invoke/VarHandle")
    {W kc ks : Nat} {as : Array Value} {QQ : Option Value → Heap → List Loc → Prop} (K : PayW l R p e below Z EL s vm0 args z W as h kc ks QQ) (eT : T.heap = h) {a : Addr} (E : Exa Z h a C) {g : JFrame} (hg : g.method = m) (hsize : g.locals.size = c.maxLocals) {argsL rest : List Value} (has : (.ref a :: argsL).toArray = as)
    (hlen : ∀ sig, parseMethodDescriptor y.desc = some sig → argsL.length = sig.parameters.length) (hstack : g.stack = argsL.reverse ++ .ref a :: rest) (hW : 2 * g.monitorRoom + (rest.map fun v => v.category).sum ≤ W) (hd : decode c.code g.pc = .ok (.invokevirtual index, 3)) (hc : cells + kc ≤ R.cells) (hs : slots + ks ≤ R.slots) :
    AftW p l e R s m args below meth c T locs cells slots Z EL vm0 h own kc ks QQ g rest := by
  subst eT
  obtain ⟨cB, kB, q1, q2, q3⟩ := isOf (s := s.setVm vm0) hZ rfl E
  obtain ⟨v, _, ⟨T', L', k', n'⟩, -, X', h2, gl, ⟨L, hQ, l1, y1, z1, hC⟩, st⟩ := X.virtualBackS hx hown (mvT (s := s.setVm vm0) hZ w1) (mvT (s := s.setVm vm0) hZ w2) hnf (mvT (s := s.setVm vm0) hZ w3) (mvT (s := s.setVm vm0) hZ w4) hy K q1 q3 hg hsize (Steps.refl _) hlen hstack hW hd (fun _ _ => ⟨has, rfl, hc, hs⟩)
  try dsimp only [Pt.U, Pt.locs, Pt.cells, Pt.slots] at X' l1 y1 z1 st hQ h2 gl hC
  subst l1 y1 z1
  obtain ⟨a1, a2, a3, a4⟩ := rebS hS hk X' h2 gl hZ hown
  exact ⟨v, T', L, a1, hQ, a2, a3, a4, hC, fun u k => st.trans k⟩
end Wide
end Jvm.Own
namespace Jvm.Own
open Jvm Jvm.ClassFile Sem Op Lib Jvm.Free Jvm.Stand Jvm.LawKit Jvm.RoadKit Bundle
section Strs
variable {Z : State} {h h' : Heap} {x : Addr} {cs : List Int32} {B B' : Nat} {a : Addr} {sl : Nat} {v : Value} {ws : List Addr}
/-- at x stands a String of the chars cs (each 0 to 255), it and its array below B -/
def Str (Z : State) (B : Nat) (h : Heap) (x : Addr) (cs : List Int32) : Prop := ∃ (t : Addr) (kb : ClassId), x < B ∧ t < B ∧ Exa Z h x "java/lang/String" ∧ Fld Z h x "java/lang/String" "value" "[B" (.ref t) ∧ Fld Z h x "java/lang/String" "coder" "B" (.int 0) ∧ Arv Z h t kb .byte (Int32.ofNat cs.length) ((cs.map fun c => c.toInt8.toInt32).map Value.int) (.int 0) ∧ (∀ c ∈ cs, ¬ c < 0 ∧ ¬ (255 : Int32) < c) ∧ cs.length ≤ 4000
theorem Str.ext (F : Str Z B h x cs) (E : Ext h h') : Str Z B h' x cs := by
  obtain ⟨t, kb, h1, h2, a, b, c, d, r⟩ := F; exact ⟨t, kb, h1, h2, a.ext E, b.ext E, c.ext E, d.ext E, r⟩
theorem Str.wr (F : Str Z B h x cs) (W : Wr h h' a sl v) (q : B ≤ a) : Str Z B h' x cs := by
  obtain ⟨t, kb, h1, h2, a, b, c, d, r⟩ := F
  exact ⟨t, kb, h1, h2, a.wr W, b.other W (Or.inl (Nat.ne_of_lt (Nat.lt_of_lt_of_le h1 q))), c.other W (Or.inl (Nat.ne_of_lt (Nat.lt_of_lt_of_le h1 q))), d.other W (Nat.ne_of_lt (Nat.lt_of_lt_of_le h2 q)), r⟩
theorem Str.keep (F : Str Z B h x cs) (K : Keep h h' ws) (q : ∀ w ∈ ws, B ≤ w) : Str Z B h' x cs := by
  obtain ⟨t, kb, h1, h2, a, b, c, d, r⟩ := F
  have n1 : x ∉ ws := fun z => absurd h1 (Nat.not_lt.mpr (q _ z))
  have n2 : t ∉ ws := fun z => absurd h2 (Nat.not_lt.mpr (q _ z))
  exact ⟨t, kb, h1, h2, a.keep K, b.keep K n1, c.keep K n1, d.keep K n2, r⟩
theorem Str.mono (F : Str Z B h x cs) (q : B ≤ B') : Str Z B' h x cs := by
  obtain ⟨t, kb, h1, h2, r⟩ := F; exact ⟨t, kb, Nat.lt_of_lt_of_le h1 q, Nat.lt_of_lt_of_le h2 q, r⟩
theorem Str.lt (F : Str Z B h x cs) : x < B := by obtain ⟨t, kb, h1, r⟩ := F; exact h1
theorem Str.exa (F : Str Z B h x cs) : Exa Z h x "java/lang/String" := by obtain ⟨t, kb, h1, h2, a, r⟩ := F; exact a
theorem Str.lat (F : Str Z B h x cs) : ∀ c ∈ cs, ¬ c < 0 ∧ ¬ (255 : Int32) < c := by obtain ⟨t, kb, h1, h2, a, b, c, d, r, -⟩ := F; exact r
theorem Str.le4 (F : Str Z B h x cs) : cs.length ≤ 4000 := by obtain ⟨t, kb, h1, h2, a, b, c, d, r, q⟩ := F; exact q
theorem up255 {cs : List Int32} (hp : ∀ c ∈ cs, ¬ c < 0 ∧ ¬ (255 : Int32) < c) : ∀ c ∈ cs, ¬ c < 0 ∧ ¬ (65535 : Int32) < c := fun c hc => ⟨(hp c hc).1, fun q => (hp c hc).2 (by
  rw [Int32.lt_iff_toInt_lt] at q ⊢
  have e1 : (65535 : Int32).toInt = 65535 := by decide
  have e2 : (255 : Int32).toInt = 255 := by decide
  omega)⟩
end Strs
end Jvm.Own
/- laws to paste: Road.backV, Road.eqW, Road.codOf (cut by pick.py; bodies as the Statement names them) -/
namespace Jvm.Pilot.@@N@@
namespace StrChars
open Jvm Sem ClassFile Op Lib Jvm.Stand Jvm.Free.XT Jvm.Free.ALB Jvm.Free.JM Jvm.Free
open Jvm.Lib.Cold (StaticIs)
/-- a char array whose places are chars -/
def Ch (a : Addr) (A : Cell) (U : State) : Prop := Arr .char a A U ∧ Typed .char A
theorem Ch.mv {a : Addr} {A : Cell} {U U' : State} (h : Ch a A U) (hal : U.vm.Alike U'.vm) (hh : U'.heap = U.heap) : Ch a A U' := ⟨h.1.mv hal hh, h.2⟩
theorem Ch.keep {a : Addr} {A : Cell} {U U' : State} (h : Ch a A U) (hal : U.vm.Alike U'.vm) (hk : U'.heap[a]? = some A) : Ch a A U' := ⟨h.1.keep hal hk, h.2⟩
/-- what place i of a char[]'s cell holds -/
def cv (A : Cell) (i : Nat) : Int32 := match A.slots[i]? with | some (.int x) => x | _ => 0
theorem Ch.get {a : Addr} {A : Cell} {U : State} (h : Ch a A U) {i : Nat} (hi : i < A.slots.size) : A.slots[i]? = some (.int (cv A i)) := by
  have e := Array.getElem?_eq_getElem hi
  have f := h.2 i _ e
  unfold cv; rw [e]
  generalize A.slots[i] = v at f
  cases v <;> simp [fits] at f ⊢
/-- the byte that i2b leaves of a char -/
def lo8 (x : Int32) : Int32 := x.toInt8.toInt32
theorem fits_lo8 (y : Int32) : fits .byte (.int (lo8 y)) = true := by
  have h1 := y.toInt8.le_toInt
  have h2 := y.toInt8.toInt_lt
  simp only [lo8, fits, Bool.and_eq_true, decide_eq_true_eq, Int32.le_iff_toInt_le, Int8.toInt_toInt32, show (-128 : Int32).toInt = -128 from by decide, show (127 : Int32).toInt = 127 from by decide]
  omega
/-- A' is A but that each place j of lo .. hi - 1 holds f j -/
def Laid (A A' : Cell) (lo hi : Nat) (f : Nat → Value) : Prop := A'.cls = A.cls ∧ A'.vm = A.vm ∧ A'.slots.size = A.slots.size ∧ ∀ i, A'.slots[i]? = if lo ≤ i ∧ i < hi then some (f i) else A.slots[i]?
theorem Laid.zero (A : Cell) (lo : Nat) (f : Nat → Value) : Laid A A lo (lo + 0) f := ⟨rfl, rfl, rfl, fun i => by rw [if_neg (by omega)]⟩
theorem Laid.step {A Ak : Cell} {lo k : Nat} {f : Nat → Value} {v : Value} (h : Laid A Ak lo k f) (hlo : lo ≤ k) (hk : k < Ak.slots.size) (hv : v = f k) : Laid A (Ak.setSlot k v) lo (k + 1) f := by
  refine ⟨h.1, h.2.1, by simpa [Cell.setSlot] using h.2.2.1, fun i => ?_⟩
  by_cases e : k = i
  · subst e; rw [Cell.slots_setSlot_self v hk, if_pos (by omega), hv]
  · rw [Cell.slots_setSlot_ne v e, h.2.2.2 i]
    by_cases q : lo ≤ i ∧ i < k
    · rw [if_pos q, if_pos (by omega)]
    · rw [if_neg q, if_neg (by omega)]
def U16 : String := "java/lang/StringUTF16"
namespace Cmp5
def yN : MethodName := ⟨"java/lang/StringUTF16", "compress", "([CI[BII)I"⟩
abbrev yB : ByteArray := jdk_52_method_21_code
theorem d0 : decode yB 0 = .ok (.iconst 0, 1) := by decide +kernel
theorem d1 : decode yB 1 = .ok (.istore 5, 2) := by decide +kernel
theorem d3 : decode yB 3 = .ok (.iload 5, 2) := by decide +kernel
theorem d5 : decode yB 5 = .ok (.iload 4, 2) := by decide +kernel
theorem d7 : decode yB 7 = .ok (.if_icmp (.ge) 37, 3) := by decide +kernel
theorem d10 : decode yB 10 = .ok (.aload_n 0, 1) := by decide +kernel
theorem d11 : decode yB 11 = .ok (.iload_n 1, 1) := by decide +kernel
theorem d12 : decode yB 12 = .ok (.caload, 1) := by decide +kernel
theorem d13 : decode yB 13 = .ok (.istore 6, 2) := by decide +kernel
theorem d15 : decode yB 15 = .ok (.iload 6, 2) := by decide +kernel
theorem d17 : decode yB 17 = .ok (.sipush 255, 3) := by decide +kernel
theorem d20 : decode yB 20 = .ok (.if_icmp (.le) 6, 3) := by decide +kernel
theorem d26 : decode yB 26 = .ok (.aload_n 2, 1) := by decide +kernel
theorem d27 : decode yB 27 = .ok (.iload_n 3, 1) := by decide +kernel
theorem d28 : decode yB 28 = .ok (.iload 6, 2) := by decide +kernel
theorem d30 : decode yB 30 = .ok (.i2b, 1) := by decide +kernel
theorem d31 : decode yB 31 = .ok (.bastore, 1) := by decide +kernel
theorem d32 : decode yB 32 = .ok (.iinc 1 1, 3) := by decide +kernel
theorem d35 : decode yB 35 = .ok (.iinc 3 1, 3) := by decide +kernel
theorem d38 : decode yB 38 = .ok (.iinc 5 1, 3) := by decide +kernel
theorem d41 : decode yB 41 = .ok (.goto (-38), 3) := by decide +kernel
theorem d44 : decode yB 44 = .ok (.iload 4, 2) := by decide +kernel
theorem d46 : decode yB 46 = .ok (.ireturn, 1) := by decide +kernel
def site : List Cond := []
def tab : Cond := tabOf yN yB 7 (some .int) site
def P (b : Addr) (A : Cell) (d : Addr) (B : Cell) (o q len : Nat) (args : Array Value) (s : State) : Prop := args = #[.ref b, .int (Int32.ofNat o), .ref d, .int (Int32.ofNat q), .int (Int32.ofNat len)] ∧ Ch b A s ∧ Arr .byte d B s ∧ b ≠ d ∧ o + len ≤ A.slots.size ∧ q + len ≤ B.slots.size ∧ ∀ i, i < len → ¬ 255 < cv A (o + i)
def E (b : Addr) (A : Cell) (d : Addr) (B : Cell) (o q len : Nat) (r : Option Value) (s u : State) : Prop := r = some (.int (Int32.ofNat len)) ∧ ∃ B', Put d B' s u ∧ Laid B B' q (q + len) (fun j => Value.int (lo8 (cv A (o + (j - q)))))
/-- no char of the range above 255: len; the places written hold each char's low byte -/
theorem law (l : Launch) (b : Addr) (A : Cell) (d : Addr) (B : Cell) (o q len : Nat) : Law l yN 5 5 0 0 yB 7 (some .int) site (P b A d B o q len) (E b A d B o q len) (copyLocs d q len) 0 0 := by
  refine Law.of_walk (plainFor_of_name (by decide +kernel)) (by decide +kernel) (by decide +kernel) (by decide) (fun _ _ h => by rw [h.1]; rfl) (fun _ U U' hal hh h => ⟨h.1, h.2.1.mv hal hh, h.2.2.1.mv hal hh, h.2.2.2⟩) (fun r U U' V V' h1 hal h2 h => ⟨h.1, h.2.elim fun B' q => ⟨B', q.1.mv h1 h2, q.2⟩⟩) ?_
  intro p e s m args below meth c s₁ X0 hexec hbytes hml hret hlk hnm hown hh0 W hP
  obtain ⟨rfl, hA, hB, hne, l1, l2, hp⟩ := hP
  have c1 : Steps p.tables e below (s₁.setTop (entryFrame m #[.ref b, .int (Int32.ofNat o), .ref d, .int (Int32.ofNat q), .int (Int32.ofNat len)] 7)) (s₁.setTop (mkF m 0 #[.val (.ref b), .val (.int (Int32.ofNat o)), .val (.ref d), .val (.int (Int32.ofNat q)), .val (.int (Int32.ofNat len)), .unset, .unset] [])) := entry rfl
  have hA0 := hA.1.mv X0.warmed.alike hh0
  have hB0 := hB.mv X0.warmed.alike hh0
  have a31 := hA.1.2.2.2
  have c2 : Steps p.tables e below (s₁.setTop (entryFrame m #[.ref b, .int (Int32.ofNat o), .ref d, .int (Int32.ofNat q), .int (Int32.ofNat len)] 7)) (s₁.setTop (mkF m 3 #[.val (.ref b), .val (.int (Int32.ofNat o)), .val (.ref d), .val (.int (Int32.ofNat q)), .val (.int (Int32.ofNat len)), .val (.int 0), .unset] [])) := c1.trans (by
    refine iconstV X0.here hexec rfl 0 (hb hbytes d0) (by decide) ?_
    refine XS.istore X0.here hexec rfl (hb hbytes d1) rfl rfl ?_
    exact Steps.refl _)
  have loop : ∀ (r i : Nat), i + r = len → ∀ (z : Slot), (z = .unset ∨ ∃ w, z = .val w ∧ w.category = 1) → ∀ (Tl : State) (Bk : Cell), Stand p l e { frames := 0, locals := 0, cells := 0, slots := 0 } s m #[.ref b, .int (Int32.ofNat o), .ref d, .int (Int32.ofNat q), .int (Int32.ofNat len)] below meth c Tl ([] ++ copyLocs d q i) 0 0 → Put d Bk s₁ Tl → Laid B Bk q (q + i) (fun j => Value.int (lo8 (cv A (o + (j - q))))) →
      Steps p.tables e below (s₁.setTop (entryFrame m #[.ref b, .int (Int32.ofNat o), .ref d, .int (Int32.ofNat q), .int (Int32.ofNat len)] 7)) (Tl.setTop (mkF m 3 #[.val (.ref b), .val (.int (Int32.ofNat (o + i))), .val (.ref d), .val (.int (Int32.ofNat (q + i))), .val (.int (Int32.ofNat len)), .val (.int (Int32.ofNat i)), z] [])) → ∃ (T' : State) (B' : Cell) (z' : Slot), Stand p l e { frames := 0, locals := 0, cells := 0, slots := 0 } s m #[.ref b, .int (Int32.ofNat o), .ref d, .int (Int32.ofNat q), .int (Int32.ofNat len)] below meth c T' ([] ++ copyLocs d q len) 0 0 ∧ Put d B' s₁ T' ∧ Laid B B' q (q + len) (fun j => Value.int (lo8 (cv A (o + (j - q))))) ∧
      Steps p.tables e below (s₁.setTop (entryFrame m #[.ref b, .int (Int32.ofNat o), .ref d, .int (Int32.ofNat q), .int (Int32.ofNat len)] 7)) (T'.setTop (mkF m 3 #[.val (.ref b), .val (.int (Int32.ofNat (o + len))), .val (.ref d), .val (.int (Int32.ofNat (q + len))), .val (.int (Int32.ofNat len)), .val (.int (Int32.ofNat len)), z'] [])) := by
    intro r
    induction r with
    | zero =>
      intro i hi z hz Tl Bk Xl pl fl cl
      have hil : i = len := by omega
      rw [hil] at Xl fl cl
      exact ⟨Tl, Bk, z, Xl, pl, fl, cl⟩
    | succ r ih =>
      intro i hi z hz Tl Bk Xl pl fl cl
      have all := X0.warmed.alike.symm.trans Xl.warmed.alike
      have hAl := hA0.keep all (pl.other hne hA0.1)
      have hBk := hB0.like all pl.1 fl.1 fl.2.1 fl.2.2.1
      have hlt : q + i < Bk.slots.size := by rw [fl.2.2.1]; omega
      have c3 : Steps p.tables e below (s₁.setTop (entryFrame m #[.ref b, .int (Int32.ofNat o), .ref d, .int (Int32.ofNat q), .int (Int32.ofNat len)] 7)) (Tl.setTop (mkF m 12 #[.val (.ref b), .val (.int (Int32.ofNat (o + i))), .val (.ref d), .val (.int (Int32.ofNat (q + i))), .val (.int (Int32.ofNat len)), .val (.int (Int32.ofNat i)), z] [.int (Int32.ofNat (o + i)), .ref b])) := cl.trans (by
        refine XS.iload Xl.here hexec rfl (hb hbytes d3) rfl ?_
        refine XS.iload Xl.here hexec rfl (hb hbytes d5) rfl ?_
        refine XS.icmpNo Xl.here hexec rfl (hb hbytes d7) rfl (ii_ge_f (lt32 (by omega) (by omega))) ?_
        refine XS.aloadN Xl.here hexec rfl (hb hbytes d10) rfl rfl ?_
        refine XS.iloadN Xl.here hexec rfl (hb hbytes d11) rfl ?_
        exact Steps.refl _)
      have c4 : Steps p.tables e below (s₁.setTop (entryFrame m #[.ref b, .int (Int32.ofNat o), .ref d, .int (Int32.ofNat q), .int (Int32.ofNat len)] 7)) (Tl.setTop (mkF m 13 #[.val (.ref b), .val (.int (Int32.ofNat (o + i))), .val (.ref d), .val (.int (Int32.ofNat (q + i))), .val (.int (Int32.ofNat len)), .val (.int (Int32.ofNat i)), z] [.int (cv A (o + i))])) := c3.trans (by
        refine Xl.aget hexec hAl rfl (hA.get (i := o + i) (by omega)) rfl rfl (hb hbytes d12) ?_
        exact Steps.refl _)
      have c5 : Steps p.tables e below (s₁.setTop (entryFrame m #[.ref b, .int (Int32.ofNat o), .ref d, .int (Int32.ofNat q), .int (Int32.ofNat len)] 7)) (Tl.setTop (mkF m 15 #[.val (.ref b), .val (.int (Int32.ofNat (o + i))), .val (.ref d), .val (.int (Int32.ofNat (q + i))), .val (.int (Int32.ofNat len)), .val (.int (Int32.ofNat i)), .val (.int (cv A (o + i)))] [])) := c4.trans (by
        refine XS.istoreS Xl.here hexec rfl (hb hbytes d13) rfl rfl hz ?_
        exact Steps.refl _)
      have c6 : Steps p.tables e below (s₁.setTop (entryFrame m #[.ref b, .int (Int32.ofNat o), .ref d, .int (Int32.ofNat q), .int (Int32.ofNat len)] 7)) (Tl.setTop (mkF m 31 #[.val (.ref b), .val (.int (Int32.ofNat (o + i))), .val (.ref d), .val (.int (Int32.ofNat (q + i))), .val (.int (Int32.ofNat len)), .val (.int (Int32.ofNat i)), .val (.int (cv A (o + i)))] [.int (lo8 (cv A (o + i))), .int (Int32.ofNat (q + i)), .ref d])) := c5.trans (by
        refine XS.iload Xl.here hexec rfl (hb hbytes d15) rfl ?_
        refine sipushV Xl.here hexec rfl 255 (hb hbytes d17) (by decide) ?_
        refine XS.icmpYes Xl.here hexec rfl (pc0 := 20) rfl (hb hbytes d20) rfl (ii_le_t (hp i (by omega))) (by decide) rfl ?_
        refine XS.aloadN Xl.here hexec rfl (hb hbytes d26) rfl rfl ?_
        refine XS.iloadN Xl.here hexec rfl (hb hbytes d27) rfl ?_
        refine XS.iload Xl.here hexec rfl (hb hbytes d28) rfl ?_
        refine i2b Xl.here hexec rfl (hb hbytes d30) rfl ?_
        exact Steps.refl _)
      obtain ⟨T7, X7, p7, st7⟩ := Xl.aput hexec hBk rfl hlt rfl (fits_lo8 (cv A (o + i))) (g := (mkF m 31 #[.val (.ref b), .val (.int (Int32.ofNat (o + i))), .val (.ref d), .val (.int (Int32.ofNat (q + i))), .val (.int (Int32.ofNat len)), .val (.int (Int32.ofNat i)), .val (.int (cv A (o + i)))] [.int (lo8 (cv A (o + i))), .int (Int32.ofNat (q + i)), .ref d])) rfl (rest := []) rfl (hb hbytes d31)
      have c8 : Steps p.tables e below (s₁.setTop (entryFrame m #[.ref b, .int (Int32.ofNat o), .ref d, .int (Int32.ofNat q), .int (Int32.ofNat len)] 7)) (T7.setTop (mkF m 32 #[.val (.ref b), .val (.int (Int32.ofNat (o + i))), .val (.ref d), .val (.int (Int32.ofNat (q + i))), .val (.int (Int32.ofNat len)), .val (.int (Int32.ofNat i)), .val (.int (cv A (o + i)))] [])) := c6.trans (st7 _ (Steps.refl _))
      have c9 : Steps p.tables e below (s₁.setTop (entryFrame m #[.ref b, .int (Int32.ofNat o), .ref d, .int (Int32.ofNat q), .int (Int32.ofNat len)] 7)) (T7.setTop (mkF m 3 #[.val (.ref b), .val (.int (Int32.ofNat (o + i) + 1)), .val (.ref d), .val (.int (Int32.ofNat (q + i) + 1)), .val (.int (Int32.ofNat len)), .val (.int (Int32.ofNat i + 1)), .val (.int (cv A (o + i)))] [])) := c8.trans (by
        refine iincV X7.here hexec rfl 1 (hb hbytes d32) (by decide) rfl rfl ?_
        refine iincV X7.here hexec rfl 1 (hb hbytes d35) (by decide) rfl rfl ?_
        refine iincV X7.here hexec rfl 1 (hb hbytes d38) (by decide) rfl rfl ?_
        refine XS.goto X7.here hexec rfl (pc0 := 41) rfl (hb hbytes d41) (by decide) rfl ?_
        exact Steps.refl _)
      have c10 : Steps p.tables e below (s₁.setTop (entryFrame m #[.ref b, .int (Int32.ofNat o), .ref d, .int (Int32.ofNat q), .int (Int32.ofNat len)] 7)) (T7.setTop (mkF m 3 #[.val (.ref b), .val (.int (Int32.ofNat (o + (i + 1)))), .val (.ref d), .val (.int (Int32.ofNat (q + (i + 1)))), .val (.int (Int32.ofNat len)), .val (.int (Int32.ofNat (i + 1))), .val (.int (cv A (o + i)))] [])) := by
        have := c9
        rw [succ32, succ32, succ32] at this
        exact this
      exact ih (i + 1) (by omega) _ (Or.inr ⟨_, rfl, rfl⟩) T7 _ (by rw [copyLocs_step, ← List.append_assoc]; exact X7) (pl.trans p7) (fl.step (by omega) hlt (by simp)) c10
  obtain ⟨T9, B9, z9, X9, p9, f9, g9⟩ := loop len 0 (by omega) .unset (Or.inl rfl) s₁ B (by simpa [copyLocs] using X0) ⟨hB0.1, fun _ _ => rfl, rfl⟩ (Laid.zero _ _ _) c2
  have c11 : Steps p.tables e below (s₁.setTop (entryFrame m #[.ref b, .int (Int32.ofNat o), .ref d, .int (Int32.ofNat q), .int (Int32.ofNat len)] 7)) (T9.setTop (mkF m 46 #[.val (.ref b), .val (.int (Int32.ofNat (o + len))), .val (.ref d), .val (.int (Int32.ofNat (q + len))), .val (.int (Int32.ofNat len)), .val (.int (Int32.ofNat len)), z9] [.int (Int32.ofNat len)])) := g9.trans (by
    refine XS.iload X9.here hexec rfl (hb hbytes d3) rfl ?_
    refine XS.iload X9.here hexec rfl (hb hbytes d5) rfl ?_
    refine XS.icmpYes X9.here hexec rfl (pc0 := 7) rfl (hb hbytes d7) rfl (ii_ge_t (nlt32 (by omega) (Nat.le_refl _))) (by decide) rfl ?_
    refine XS.iload X9.here hexec rfl (hb hbytes d44) rfl ?_
    exact Steps.refl _)
  exact ⟨T9, some (.int (Int32.ofNat len)), _, _, _, X9, by simp, rfl, rfl, (fun h => by cases h), ⟨rfl, B9, p9.from hh0, f9⟩, fun fs hl => c11.trans (X9.ireturnOut hexec hret rfl (Or.inl rfl) (hb hbytes d46) hl)⟩
end Cmp5
namespace Cmp3
def yN : MethodName := ⟨"java/lang/StringUTF16", "compress", "([CII)[B"⟩
abbrev yB : ByteArray := jdk_52_method_16_code
theorem d0 : decode yB 0 = .ok (.iload_n 2, 1) := by decide +kernel
theorem d1 : decode yB 1 = .ok (.newarray .byte, 2) := by decide +kernel
theorem d3 : decode yB 3 = .ok (.astore_n 3, 1) := by decide +kernel
theorem d4 : decode yB 4 = .ok (.aload_n 0, 1) := by decide +kernel
theorem d5 : decode yB 5 = .ok (.iload_n 1, 1) := by decide +kernel
theorem d6 : decode yB 6 = .ok (.aload_n 3, 1) := by decide +kernel
theorem d7 : decode yB 7 = .ok (.iconst 0, 1) := by decide +kernel
theorem d8 : decode yB 8 = .ok (.iload_n 2, 1) := by decide +kernel
theorem d9 : decode yB 9 = .ok (.invokestatic 115, 3) := by decide +kernel
theorem d12 : decode yB 12 = .ok (.istore 4, 2) := by decide +kernel
theorem d14 : decode yB 14 = .ok (.iload 4, 2) := by decide +kernel
theorem d16 : decode yB 16 = .ok (.iload_n 2, 1) := by decide +kernel
theorem d17 : decode yB 17 = .ok (.if_icmp (.eq) 40, 3) := by decide +kernel
theorem d57 : decode yB 57 = .ok (.aload_n 3, 1) := by decide +kernel
theorem d58 : decode yB 58 = .ok (.areturn, 1) := by decide +kernel
def site : List Cond := [.arrayClass .byte, Cmp5.tab] ++ staticW U16 115 Cmp5.yN
def tab : Cond := tabOf yN yB 6 (some (.array .byte)) site
def P (b : Addr) (A : Cell) (o len : Nat) (args : Array Value) (s : State) : Prop := args = #[.ref b, .int (Int32.ofNat o), .int (Int32.ofNat len)] ∧ Ch b A s ∧ o + len ≤ A.slots.size ∧ len ≤ 536870912 ∧ ∀ i, i < len → ¬ 255 < cv A (o + i)
def E (b : Addr) (A : Cell) (o len : Nat) (r : Option Value) (s u : State) : Prop := NewArr .byte "[B" len (fun j => .int (lo8 (cv A (o + j)))) r s u ∧ u.heap.size = s.heap.size + 1
/-- no char of the range above 255: a new byte[] of their low bytes -/
theorem law (l : Launch) (b : Addr) (A : Cell) (o len : Nat) : Law l yN 3 3 1 18 yB 6 (some (.array .byte)) site (P b A o len) (E b A o len) [] 1 len := by
  refine Law.of_walk (plainFor_of_name (by decide +kernel)) (by decide +kernel) (by decide +kernel) (by decide) (fun _ _ h => by rw [h.1]; rfl) (fun _ U U' hal hh h => ⟨h.1, h.2.1.mv hal hh, h.2.2⟩) (fun r U U' V V' h1 hal h2 h => ⟨NewArr.mv r U U' V V' h1 hal h2 h.1, by rw [h1, h2]; exact h.2⟩) ?_
  intro p e s m args below meth c s₁ X0 hexec hbytes hml hret hlk hnm hown hh0 W hP
  obtain ⟨rfl, hA, l1, l2, hp⟩ := hP
  have a31 := hA.1.2.2.2
  have c1 : Steps p.tables e below (s₁.setTop (entryFrame m #[.ref b, .int (Int32.ofNat o), .int (Int32.ofNat len)] 6)) (s₁.setTop (mkF m 0 #[.val (.ref b), .val (.int (Int32.ofNat o)), .val (.int (Int32.ofNat len)), .unset, .unset, .unset] [])) := entry rfl
  have c2 : Steps p.tables e below (s₁.setTop (entryFrame m #[.ref b, .int (Int32.ofNat o), .int (Int32.ofNat len)] 6)) (s₁.setTop (mkF m 1 #[.val (.ref b), .val (.int (Int32.ofNat o)), .val (.int (Int32.ofNat len)), .unset, .unset, .unset] [.int (Int32.ofNat len)])) := c1.trans (by
    refine XS.iloadN X0.here hexec rfl (hb hbytes d0) rfl ?_
    exact Steps.refl _)
  obtain ⟨T3, B3, X3, ba3, bs3, bv3, bh3, bf3, st3⟩ := X0.anew hexec (atype := .byte) (wk W (.arrayClass .byte)) rfl (by show len * 1 ≤ _; omega) (by omega) (g := (mkF m 1 #[.val (.ref b), .val (.int (Int32.ofNat o)), .val (.int (Int32.ofNat len)), .unset, .unset, .unset] [.int (Int32.ofNat len)])) rfl (hb hbytes d1) (rest := []) rfl (Nat.le_refl _) (by show 0 + len ≤ len; omega)
  rw [hh0] at ba3 st3
  have kp3 : XT.Kept s T3 := (XT.Kept.of_eq hh0).push bh3
  have hA3 := hA.keep X3.warmed.alike (kp3 _ _ hA.1.1)
  have hne : b ≠ s.heap.size := hA.1.ne
  have c4 : Steps p.tables e below (s₁.setTop (entryFrame m #[.ref b, .int (Int32.ofNat o), .int (Int32.ofNat len)] 6)) (T3.setTop (mkF m 3 #[.val (.ref b), .val (.int (Int32.ofNat o)), .val (.int (Int32.ofNat len)), .unset, .unset, .unset] [.ref s.heap.size])) := c2.trans (st3 _ (Steps.refl _))
  have c5 : Steps p.tables e below (s₁.setTop (entryFrame m #[.ref b, .int (Int32.ofNat o), .int (Int32.ofNat len)] 6)) (T3.setTop (mkF m 9 #[.val (.ref b), .val (.int (Int32.ofNat o)), .val (.int (Int32.ofNat len)), .val (.ref s.heap.size), .unset, .unset] [.int (Int32.ofNat len), .int 0, .ref s.heap.size, .int (Int32.ofNat o), .ref b])) := c4.trans (by
    refine XS.astoreN X3.here hexec rfl (hb hbytes d3) rfl rfl rfl ?_
    refine XS.aloadN X3.here hexec rfl (hb hbytes d4) rfl rfl ?_
    refine XS.iloadN X3.here hexec rfl (hb hbytes d5) rfl ?_
    refine XS.aloadN X3.here hexec rfl (hb hbytes d6) rfl rfl ?_
    refine iconstV X3.here hexec rfl 0 (hb hbytes d7) (by decide) ?_
    refine XS.iloadN X3.here hexec rfl (hb hbytes d8) rfl ?_
    exact Steps.refl _)
  obtain ⟨v6, T6, X6, E6, g6⟩ := X3.callS hexec (Cmp5.law l b A s.heap.size B3 o 0 len) hown (wks W (staticW U16 115 Cmp5.yN)) (wk W Cmp5.tab) (W := 0) (Nat.le_of_ble_eq_true rfl) (Nat.le_of_ble_eq_true rfl) (Nat.le_refl _) (by show 0 + len + 0 ≤ len; omega) (g := (mkF m 9 #[.val (.ref b), .val (.int (Int32.ofNat o)), .val (.int (Int32.ofNat len)), .val (.ref s.heap.size), .unset, .unset] [.int (Int32.ofNat len), .int (Int32.ofNat 0), .ref s.heap.size, .int (Int32.ofNat o), .ref b])) rfl (by rw [hml]; rfl) c5 (argsL := [.ref b, .int (Int32.ofNat o), .ref s.heap.size, .int (Int32.ofNat 0), .int (Int32.ofNat len)]) (rest := []) rfl rfl (by show 2 * 0 + 0 ≤ _; decide) (hb hbytes d9) (⟨rfl, hA3, ba3, hne, l1, by rw [bs3]; simp, hp⟩)
  obtain ⟨rfl, B6, p6, f6⟩ := E6
  have c7 : Steps p.tables e below (s₁.setTop (entryFrame m #[.ref b, .int (Int32.ofNat o), .int (Int32.ofNat len)] 6)) (T6.setTop (mkF m 12 #[.val (.ref b), .val (.int (Int32.ofNat o)), .val (.int (Int32.ofNat len)), .val (.ref s.heap.size), .unset, .unset] [.int (Int32.ofNat len)])) := g6
  have c8 : Steps p.tables e below (s₁.setTop (entryFrame m #[.ref b, .int (Int32.ofNat o), .int (Int32.ofNat len)] 6)) (T6.setTop (mkF m 58 #[.val (.ref b), .val (.int (Int32.ofNat o)), .val (.int (Int32.ofNat len)), .val (.ref s.heap.size), .val (.int (Int32.ofNat len)), .unset] [.ref s.heap.size])) := c7.trans (by
    refine XS.istore X6.here hexec rfl (hb hbytes d12) rfl rfl ?_
    refine XS.iload X6.here hexec rfl (hb hbytes d14) rfl ?_
    refine XS.iloadN X6.here hexec rfl (hb hbytes d16) rfl ?_
    refine XS.icmpYes X6.here hexec rfl (pc0 := 17) rfl (hb hbytes d17) rfl (ii_eq_t rfl) (by decide) rfl ?_
    refine XS.aloadN X6.here hexec rfl (hb hbytes d57) rfl rfl ?_
    exact Steps.refl _)
  have X8 := X6.wide (L' := []) (cells' := 1) (slots' := len) (fun x hx hlt => by
    simp only [List.nil_append, copyLocs, List.mem_map, List.mem_range] at hx
    obtain ⟨i, -, rfl⟩ := hx
    exact absurd hlt (Nat.lt_irrefl _)) (Nat.le_refl _) (by omega)
  exact ⟨T6, some (.ref s.heap.size), _, _, _, X8, rfl, rfl, rfl, (fun h => by cases h), ⟨⟨rfl, B6, ba3.like (X3.warmed.alike.symm.trans X6.warmed.alike) p6.1 f6.1 f6.2.1 f6.2.2.1, f6.2.1.trans bv3, by rw [X6.warmed.alike.findClass, f6.1]; exact bf3, by rw [f6.2.2.1, bs3]; simp, fun j hj => by rw [f6.2.2.2 j, if_pos (by omega)]; rfl, kp3.put p6 (Nat.le_refl _)⟩, by rw [p6.2.2, bh3, hh0]; simp⟩, fun fs hl => c8.trans (X8.areturnOut hexec rfl hret rfl (hb hbytes d58) hl)⟩
end Cmp3
namespace CodL
def yN : MethodName := ⟨"java/lang/StringUTF16", "coderFromArrayLen", "([BI)B"⟩
abbrev yB : ByteArray := jdk_52_method_15_code
theorem d0 : decode yB 0 = .ok (.iload_n 1, 1) := by decide +kernel
theorem d1 : decode yB 1 = .ok (.aload_n 0, 1) := by decide +kernel
theorem d2 : decode yB 2 = .ok (.arraylength, 1) := by decide +kernel
theorem d3 : decode yB 3 = .ok (.isub, 1) := by decide +kernel
theorem d4 : decode yB 4 = .ok (.bipush 31, 2) := by decide +kernel
theorem d6 : decode yB 6 = .ok (.iushr, 1) := by decide +kernel
theorem d7 : decode yB 7 = .ok (.i2b, 1) := by decide +kernel
theorem d8 : decode yB 8 = .ok (.ireturn, 1) := by decide +kernel
def site : List Cond := []
def tab : Cond := tabOf yN yB 2 (some .byte) site
def P (d : Addr) (B : Cell) (args : Array Value) (s : State) : Prop := args = #[.ref d, .int (Int32.ofNat B.slots.size)] ∧ Arr .byte d B s
def E (r : Option Value) (s u : State) : Prop := XT.PureE (some (.int 0)) r s u
/-- an array as long as the number of chars: LATIN1 -/
theorem law (l : Launch) (d : Addr) (B : Cell) : Law l yN 2 2 0 0 yB 2 (some .byte) site (P d B) E [] 0 0 := by
  refine Law.of_walk (plainFor_of_name (by decide +kernel)) (by decide +kernel) (by decide +kernel) (by decide) (fun _ _ h => by rw [h.1]; rfl) (fun _ U U' hal hh h => ⟨h.1, h.2.mv hal hh⟩) (fun r U U' V V' h1 hal h2 h => XT.PureE.mv r U U' V V' h1 hal h2 h) ?_
  intro p e s m args below meth c s₁ X0 hexec hbytes hml hret hlk hnm hown hh0 W hP
  obtain ⟨rfl, hB⟩ := hP
  have hB0 := hB.mv X0.warmed.alike hh0
  have c1 : Steps p.tables e below (s₁.setTop (entryFrame m #[.ref d, .int (Int32.ofNat B.slots.size)] 2)) (s₁.setTop (mkF m 0 #[.val (.ref d), .val (.int (Int32.ofNat B.slots.size))] [])) := entry rfl
  have c2 : Steps p.tables e below (s₁.setTop (entryFrame m #[.ref d, .int (Int32.ofNat B.slots.size)] 2)) (s₁.setTop (mkF m 2 #[.val (.ref d), .val (.int (Int32.ofNat B.slots.size))] [.ref d, .int (Int32.ofNat B.slots.size)])) := c1.trans (by
    refine XS.iloadN X0.here hexec rfl (hb hbytes d0) rfl ?_
    refine XS.aloadN X0.here hexec rfl (hb hbytes d1) rfl rfl ?_
    exact Steps.refl _)
  have c3 : Steps p.tables e below (s₁.setTop (entryFrame m #[.ref d, .int (Int32.ofNat B.slots.size)] 2)) (s₁.setTop (mkF m 8 #[.val (.ref d), .val (.int (Int32.ofNat B.slots.size))] [.int (lo8 (ushr (Int32.ofNat B.slots.size - Int32.ofNat B.slots.size) 31))])) := c2.trans (by
    refine X0.alen hexec hB0 rfl rfl (hb hbytes d2) ?_
    refine XS.isub X0.here hexec rfl (hb hbytes d3) rfl ?_
    refine bipushV X0.here hexec rfl 31 (hb hbytes d4) (by decide) ?_
    refine iushr X0.here hexec rfl (hb hbytes d6) rfl ?_
    refine i2b X0.here hexec rfl (hb hbytes d7) rfl ?_
    exact Steps.refl _)
  have e0 : lo8 (ushr (Int32.ofNat B.slots.size - Int32.ofNat B.slots.size) 31) = 0 := by rw [Int32.sub_self]; decide
  rw [e0] at c3
  exact ⟨s₁, some (.int 0), _, _, _, X0, rfl, rfl, rfl, (fun h => by cases h), ⟨rfl, hh0⟩, fun fs hl => c3.trans (X0.ireturnOut hexec hret rfl (Or.inr (Or.inr (Or.inl rfl))) (hb hbytes d8) hl)⟩
end CodL
/-- the String at a is Latin-1 over a new byte[] (the heap's one new cell): the low bytes of the len chars of A from o on; every cell but a is kept -/
def Got (a : Addr) (D : Cell) (fV fC : Field) (A : Cell) (o len : Nat) (r : Option Value) (s u : State) : Prop := r = none ∧ ∃ D' V : Cell, Blank "java/lang/String" a D' u ∧ Same D D' [fV.slot, fC.slot] ∧ D'.slots[fV.slot]? = some (.ref s.heap.size) ∧ D'.slots[fC.slot]? = some (.int 0) ∧ Arr .byte s.heap.size V u ∧ V.vm = .none ∧ u.vm.findClass "[B" = some V.cls ∧ V.slots.size = len ∧ (∀ j, j < len → V.slots[j]? = some (.int (lo8 (cv A (o + j))))) ∧ (∀ (y : Addr) (c : Cell), y ≠ a → s.heap[y]? = some c → u.heap[y]? = some c) ∧ u.heap.size = s.heap.size + 1
theorem Got.mv {a : Addr} {D A : Cell} {fV fC : Field} {o len : Nat} : ∀ r (U U' V V' : State), U'.heap = U.heap → V.vm.Alike V'.vm → V'.heap = V.heap → Got a D fV fC A o len r U V → Got a D fV fC A o len r U' V' :=
  fun r U U' V V' h1 hal h2 ⟨e0, D', X, a1, a2, a3, a4, a5, a6, a7, a8, a9, a10, a11⟩ => ⟨e0, D', X, a1.mv hal h2, a2, by rw [h1]; exact a3, a4, by rw [h1]; exact a5.mv hal h2, a6, by rw [hal.findClass]; exact a7, a8, a9, by rw [h1, h2]; exact a10, by rw [h1, h2]; exact a11⟩
namespace New4
def yN : MethodName := ⟨"java/lang/String", "<init>", "([CIILjava/lang/Void;)V"⟩
abbrev yB : ByteArray := jdk_42_method_149_code
theorem d0 : decode yB 0 = .ok (.aload_n 0, 1) := by decide +kernel
theorem d1 : decode yB 1 = .ok (.invokespecial 1, 3) := by decide +kernel
theorem d4 : decode yB 4 = .ok (.iload_n 3, 1) := by decide +kernel
theorem d5 : decode yB 5 = .ok (.ifCond (.ne) 22, 3) := by decide +kernel
theorem d27 : decode yB 27 = .ok (.getstatic 38, 3) := by decide +kernel
theorem d30 : decode yB 30 = .ok (.ifCond (.eq) 28, 3) := by decide +kernel
theorem d33 : decode yB 33 = .ok (.aload_n 1, 1) := by decide +kernel
theorem d34 : decode yB 34 = .ok (.iload_n 2, 1) := by decide +kernel
theorem d35 : decode yB 35 = .ok (.iload_n 3, 1) := by decide +kernel
theorem d36 : decode yB 36 = .ok (.invokestatic 177, 3) := by decide +kernel
theorem d39 : decode yB 39 = .ok (.astore 5, 2) := by decide +kernel
theorem d41 : decode yB 41 = .ok (.aload_n 0, 1) := by decide +kernel
theorem d42 : decode yB 42 = .ok (.aload 5, 2) := by decide +kernel
theorem d44 : decode yB 44 = .ok (.iload_n 3, 1) := by decide +kernel
theorem d45 : decode yB 45 = .ok (.invokestatic 47, 3) := by decide +kernel
theorem d48 : decode yB 48 = .ok (.putfield 15, 3) := by decide +kernel
theorem d51 : decode yB 51 = .ok (.aload_n 0, 1) := by decide +kernel
theorem d52 : decode yB 52 = .ok (.aload 5, 2) := by decide +kernel
theorem d54 : decode yB 54 = .ok (.putfield 9, 3) := by decide +kernel
theorem d57 : decode yB 57 = .ok (.return_, 1) := by decide +kernel
def site : List Cond := [.fieldLink "java/lang/String" 38 "java/lang/String" "COMPACT_STRINGS" "Z", Cmp3.tab, CodL.tab, .laysFinal "java/lang/String" "java/lang/String" "value" "[B", .fieldLink "java/lang/String" 9 "java/lang/String" "value" "[B", .laysFinal "java/lang/String" "java/lang/String" "coder" "B", .fieldLink "java/lang/String" 15 "java/lang/String" "coder" "B"] ++ objW "java/lang/String" 1 ++ staticW "java/lang/String" 177 Cmp3.yN ++ staticW "java/lang/String" 47 CodL.yN
def tab : Cond := tabOf yN yB 6 none site
def P (a : Addr) (D : Cell) (fV fC : Field) (b : Addr) (A : Cell) (z : Int32) (o len : Nat) (args : Array Value) (s : State) : Prop := args = #[.ref a, .ref b, .int (Int32.ofNat o), .int (Int32.ofNat len), .null] ∧ Blank "java/lang/String" a D s ∧ Found "java/lang/String" "value" "[B" fV s ∧ Found "java/lang/String" "coder" "B" fC s ∧ Ch b A s ∧ StaticIs s "java/lang/String" "COMPACT_STRINGS" "Z" (.int z) ∧ ¬ z = 0 ∧ 0 < len ∧ o + len ≤ A.slots.size ∧ len ≤ 536870912 ∧ ∀ i, i < len → ¬ 255 < cv A (o + i)
def E (a : Addr) (D : Cell) (fV fC : Field) (A : Cell) (o len : Nat) (r : Option Value) (s u : State) : Prop := Got a D fV fC A o len r s u
/-- len > 0, no char of the range above 255: a Latin-1 String of their low bytes -/
theorem law (l : Launch) (a : Addr) (D : Cell) (fV fC : Field) (b : Addr) (A : Cell) (z : Int32) (o len : Nat) : Law l yN 5 4 2 35 yB 6 none site (P a D fV fC b A z o len) (E a D fV fC A o len) [⟨a, fC.slot⟩, ⟨a, fV.slot⟩] 1 len := by
  refine Law.of_walk (plainFor_of_name (by decide +kernel)) (by decide +kernel) (by decide +kernel) (by decide) (fun _ _ h => by rw [h.1]; rfl) (fun _ U U' hal hh h => ⟨h.1, h.2.1.mv hal hh, h.2.2.1.al hal, h.2.2.2.1.al hal, h.2.2.2.2.1.mv hal hh, h.2.2.2.2.2.1.there hal hh, h.2.2.2.2.2.2⟩) (fun r U U' V V' h1 hal h2 h => Got.mv r U U' V V' h1 hal h2 h) ?_
  intro p e s m args below meth c s₁ X0 hexec hbytes hml hret hlk hnm hown hh0 W hP
  obtain ⟨rfl, hB, f1, f2, hA, s1, hz, l0, l1, l2, hp⟩ := hP
  have a31 := hA.1.2.2.2
  have c1 : Steps p.tables e below (s₁.setTop (entryFrame m #[.ref a, .ref b, .int (Int32.ofNat o), .int (Int32.ofNat len), .null] 6)) (s₁.setTop (mkF m 0 #[.val (.ref a), .val (.ref b), .val (.int (Int32.ofNat o)), .val (.int (Int32.ofNat len)), .val .null, .unset] [])) := entry rfl
  have c2 : Steps p.tables e below (s₁.setTop (entryFrame m #[.ref a, .ref b, .int (Int32.ofNat o), .int (Int32.ofNat len), .null] 6)) (s₁.setTop (mkF m 1 #[.val (.ref a), .val (.ref b), .val (.int (Int32.ofNat o)), .val (.int (Int32.ofNat len)), .val .null, .unset] [.ref a])) := c1.trans (by
    refine XS.aloadN X0.here hexec rfl (hb hbytes d0) rfl rfl ?_
    exact Steps.refl _)
  obtain ⟨T3, X3, q3, st3⟩ := X0.oinit hexec hown (wks W (objW "java/lang/String" 1)) (g := (mkF m 1 #[.val (.ref a), .val (.ref b), .val (.int (Int32.ofNat o)), .val (.int (Int32.ofNat len)), .val .null, .unset] [.ref a])) rfl (by rw [hml]; rfl) (rest := []) rfl (hb hbytes d1) (W := 0) (by show 2 * 0 + 0 ≤ _; decide) (Nat.le_of_ble_eq_true rfl) (Nat.le_of_ble_eq_true rfl)
  have hh3 := q3.trans hh0
  have c4 : Steps p.tables e below (s₁.setTop (entryFrame m #[.ref a, .ref b, .int (Int32.ofNat o), .int (Int32.ofNat len), .null] 6)) (T3.setTop (mkF m 27 #[.val (.ref a), .val (.ref b), .val (.int (Int32.ofNat o)), .val (.int (Int32.ofNat len)), .val .null, .unset] [])) := (c2.trans (st3 _ (Steps.refl _))).trans (by
    refine XS.iloadN X3.here hexec rfl (hb hbytes d4) rfl ?_
    refine XS.ifYes X3.here hexec rfl (pc0 := 5) rfl (hb hbytes d5) rfl (i0_ne_t (nz32 (by omega) l0)) (by decide) rfl ?_
    exact Steps.refl _)
  obtain ⟨T5, X5, q5, st5⟩ := X3.sget hexec hown (wk W (.fieldLink "java/lang/String" 38 "java/lang/String" "COMPACT_STRINGS" "Z")) s1 (fun _ _ h => by rw [hh3]; exact h) (g := (mkF m 27 #[.val (.ref a), .val (.ref b), .val (.int (Int32.ofNat o)), .val (.int (Int32.ofNat len)), .val .null, .unset] [])) rfl (hb hbytes d27)
  have hh5 := q5.trans hh3
  have c6 : Steps p.tables e below (s₁.setTop (entryFrame m #[.ref a, .ref b, .int (Int32.ofNat o), .int (Int32.ofNat len), .null] 6)) (T5.setTop (mkF m 30 #[.val (.ref a), .val (.ref b), .val (.int (Int32.ofNat o)), .val (.int (Int32.ofNat len)), .val .null, .unset] [.int z])) := c4.trans (st5 _ (Steps.refl _))
  have c7 : Steps p.tables e below (s₁.setTop (entryFrame m #[.ref a, .ref b, .int (Int32.ofNat o), .int (Int32.ofNat len), .null] 6)) (T5.setTop (mkF m 36 #[.val (.ref a), .val (.ref b), .val (.int (Int32.ofNat o)), .val (.int (Int32.ofNat len)), .val .null, .unset] [.int (Int32.ofNat len), .int (Int32.ofNat o), .ref b])) := c6.trans (by
    refine XS.ifNo X5.here hexec rfl (hb hbytes d30) rfl (i0_eq_f hz) ?_
    refine XS.aloadN X5.here hexec rfl (hb hbytes d33) rfl rfl ?_
    refine XS.iloadN X5.here hexec rfl (hb hbytes d34) rfl ?_
    refine XS.iloadN X5.here hexec rfl (hb hbytes d35) rfl ?_
    exact Steps.refl _)
  obtain ⟨v8, T8, X8, E8, g8⟩ := X5.callS hexec (Cmp3.law l b A o len) hown (wks W (staticW "java/lang/String" 177 Cmp3.yN)) (wk W Cmp3.tab) (W := 0) (Nat.le_of_ble_eq_true rfl) (Nat.le_of_ble_eq_true rfl) (Nat.le_refl _) (by show 0 + len ≤ len; omega) (g := (mkF m 36 #[.val (.ref a), .val (.ref b), .val (.int (Int32.ofNat o)), .val (.int (Int32.ofNat len)), .val .null, .unset] [.int (Int32.ofNat len), .int (Int32.ofNat o), .ref b])) rfl (by rw [hml]; rfl) c7 (argsL := [.ref b, .int (Int32.ofNat o), .int (Int32.ofNat len)]) (rest := []) rfl rfl (by show 2 * 0 + 0 ≤ _; decide) (hb hbytes d36) (⟨rfl, hA.mv X5.warmed.alike hh5, l1, l2, hp⟩)
  obtain ⟨e8, z8⟩ := E8
  obtain ⟨rfl, N, n1, n2, n3, n4, n5, n6⟩ := NewArr.mv _ T5 s _ _ hh5.symm (Vm.Alike.refl _) rfl e8
  rw [hh5] at z8
  have hB1 := hB.keep X8.warmed.alike (n6 _ _ hB.1)
  have hne : s.heap.size ≠ a := (Nat.ne_of_lt (Array.getElem?_eq_some_iff.mp hB.1).1).symm
  have c9 : Steps p.tables e below (s₁.setTop (entryFrame m #[.ref a, .ref b, .int (Int32.ofNat o), .int (Int32.ofNat len), .null] 6)) (T8.setTop (mkF m 39 #[.val (.ref a), .val (.ref b), .val (.int (Int32.ofNat o)), .val (.int (Int32.ofNat len)), .val .null, .unset] [.ref s.heap.size])) := g8
  have c10 : Steps p.tables e below (s₁.setTop (entryFrame m #[.ref a, .ref b, .int (Int32.ofNat o), .int (Int32.ofNat len), .null] 6)) (T8.setTop (mkF m 45 #[.val (.ref a), .val (.ref b), .val (.int (Int32.ofNat o)), .val (.int (Int32.ofNat len)), .val .null, .val (.ref s.heap.size)] [.int (Int32.ofNat N.slots.size), .ref s.heap.size, .ref a])) := by
    have hc : Steps p.tables e below (s₁.setTop (entryFrame m #[.ref a, .ref b, .int (Int32.ofNat o), .int (Int32.ofNat len), .null] 6)) (T8.setTop (mkF m 45 #[.val (.ref a), .val (.ref b), .val (.int (Int32.ofNat o)), .val (.int (Int32.ofNat len)), .val .null, .val (.ref s.heap.size)] [.int (Int32.ofNat len), .ref s.heap.size, .ref a])) := c9.trans (by
      refine XS.astore X8.here hexec rfl (hb hbytes d39) rfl rfl rfl ?_
      refine XS.aloadN X8.here hexec rfl (hb hbytes d41) rfl rfl ?_
      refine XS.aload X8.here hexec rfl (hb hbytes d42) rfl rfl ?_
      refine XS.iloadN X8.here hexec rfl (hb hbytes d44) rfl ?_
      exact Steps.refl _)
    rw [n4]; exact hc
  obtain ⟨v11, T11, X11, E11, g11⟩ := X8.callS hexec (CodL.law l s.heap.size N) hown (wks W (staticW "java/lang/String" 47 CodL.yN)) (wk W CodL.tab) (W := 1) (Nat.le_of_ble_eq_true rfl) (Nat.le_of_ble_eq_true rfl) (Nat.le_refl _) (by show 0 + len + 0 ≤ len; omega) (g := (mkF m 45 #[.val (.ref a), .val (.ref b), .val (.int (Int32.ofNat o)), .val (.int (Int32.ofNat len)), .val .null, .val (.ref s.heap.size)] [.int (Int32.ofNat N.slots.size), .ref s.heap.size, .ref a])) rfl (by rw [hml]; rfl) c10 (argsL := [.ref s.heap.size, .int (Int32.ofNat N.slots.size)]) (rest := [.ref a]) rfl rfl (by show 2 * 0 + (1 + 0) ≤ _; decide) (hb hbytes d45) (⟨rfl, n1⟩)
  obtain ⟨rfl, q11⟩ := E11
  have hB11 := hB1.mv (X8.warmed.alike.symm.trans X11.warmed.alike) q11
  have c12 : Steps p.tables e below (s₁.setTop (entryFrame m #[.ref a, .ref b, .int (Int32.ofNat o), .int (Int32.ofNat len), .null] 6)) (T11.setTop (mkF m 48 #[.val (.ref a), .val (.ref b), .val (.int (Int32.ofNat o)), .val (.int (Int32.ofNat len)), .val .null, .val (.ref s.heap.size)] [.int 0, .ref a])) := g11
  obtain ⟨T13, X13, p13, bl13, sl13, st13⟩ := X11.finit hexec hown (wk W (.fieldLink "java/lang/String" 15 "java/lang/String" "coder" "B")) (Or.inr ⟨_, (wk W (.laysFinal "java/lang/String" "java/lang/String" "coder" "B"))⟩) (Or.inl ⟨rfl, hnm⟩) f2 (Or.inl rfl) hB11 (t := .byte) (by decide +kernel) rfl (g := (mkF m 48 #[.val (.ref a), .val (.ref b), .val (.int (Int32.ofNat o)), .val (.int (Int32.ofNat len)), .val .null, .val (.ref s.heap.size)] [.int 0, .ref a])) rfl (rest := []) rfl (hb hbytes d48)
  have c14 : Steps p.tables e below (s₁.setTop (entryFrame m #[.ref a, .ref b, .int (Int32.ofNat o), .int (Int32.ofNat len), .null] 6)) (T13.setTop (mkF m 54 #[.val (.ref a), .val (.ref b), .val (.int (Int32.ofNat o)), .val (.int (Int32.ofNat len)), .val .null, .val (.ref s.heap.size)] [.ref s.heap.size, .ref a])) := (c12.trans (st13 _ (Steps.refl _))).trans (by
    refine XS.aloadN X13.here hexec rfl (hb hbytes d51) rfl rfl ?_
    refine XS.aload X13.here hexec rfl (hb hbytes d52) rfl rfl ?_
    exact Steps.refl _)
  obtain ⟨T15, X15, p15, bl15, sl15, st15⟩ := X13.finit hexec hown (wk W (.fieldLink "java/lang/String" 9 "java/lang/String" "value" "[B")) (Or.inr ⟨_, (wk W (.laysFinal "java/lang/String" "java/lang/String" "value" "[B"))⟩) (Or.inl ⟨rfl, hnm⟩) f1 (Or.inl rfl) bl13 (t := (.array .byte)) (by decide +kernel) rfl (g := (mkF m 54 #[.val (.ref a), .val (.ref b), .val (.int (Int32.ofNat o)), .val (.int (Int32.ofNat len)), .val .null, .val (.ref s.heap.size)] [.ref s.heap.size, .ref a])) rfl (rest := []) rfl (hb hbytes d54)
  have c16 : Steps p.tables e below (s₁.setTop (entryFrame m #[.ref a, .ref b, .int (Int32.ofNat o), .int (Int32.ofNat len), .null] 6)) (T15.setTop (mkF m 57 #[.val (.ref a), .val (.ref b), .val (.int (Int32.ofNat o)), .val (.int (Int32.ofNat len)), .val .null, .val (.ref s.heap.size)] [])) := c14.trans (st15 _ (Steps.refl _))
  have ap := apart (Or.inr ⟨_, (wk W (.laysFinal "java/lang/String" "java/lang/String" "value" "[B"))⟩) (Or.inr ⟨_, (wk W (.laysFinal "java/lang/String" "java/lang/String" "coder" "B"))⟩) f1 f2 (t₁ := .array .byte) (t₂ := .byte) (by decide +kernel) (by decide +kernel) (by decide)
  have al := X8.warmed.alike.symm.trans X15.warmed.alike
  have n7 : T11.heap[s.heap.size]? = some N := by rw [q11]; exact n1.1
  exact ⟨T15, none, _, _, _, X15, by simp, rfl, by omega, (fun _ => rfl), ⟨rfl, _, N, bl15, ((Same.refl D _).set _ (by simp)).set _ (by simp), sl15, (Cell.slots_setSlot_ne _ ap).trans sl13, n1.keep al (p15.other hne (p13.other hne n7)), n2, by rw [al.findClass]; exact n3, n4, n5, fun y c h1 h2 => p15.other h1 (p13.other h1 (by rw [q11]; exact n6 y c h2)), by rw [p15.2.2, p13.2.2, q11]; exact z8⟩, fun fs hl => c16.trans (X15.returnOut hexec hret (hb hbytes d57) hl)⟩
end New4
namespace New1
def yN : MethodName := ⟨"java/lang/String", "<init>", "([C)V"⟩
abbrev yB : ByteArray := jdk_42_method_3_code
theorem d0 : decode yB 0 = .ok (.aload_n 0, 1) := by decide +kernel
theorem d1 : decode yB 1 = .ok (.aload_n 1, 1) := by decide +kernel
theorem d2 : decode yB 2 = .ok (.iconst 0, 1) := by decide +kernel
theorem d3 : decode yB 3 = .ok (.aload_n 1, 1) := by decide +kernel
theorem d4 : decode yB 4 = .ok (.arraylength, 1) := by decide +kernel
theorem d5 : decode yB 5 = .ok (.aconst_null, 1) := by decide +kernel
theorem d6 : decode yB 6 = .ok (.invokespecial 27, 3) := by decide +kernel
theorem d9 : decode yB 9 = .ok (.return_, 1) := by decide +kernel
def site : List Cond := [New4.tab] ++ initW "java/lang/String" 27 New4.yN
def tab : Cond := tabOf yN yB 2 none site
def P (a : Addr) (D : Cell) (fV fC : Field) (b : Addr) (A : Cell) (z : Int32) (args : Array Value) (s : State) : Prop := args = #[.ref a, .ref b] ∧ Blank "java/lang/String" a D s ∧ Found "java/lang/String" "value" "[B" fV s ∧ Found "java/lang/String" "coder" "B" fC s ∧ Ch b A s ∧ StaticIs s "java/lang/String" "COMPACT_STRINGS" "Z" (.int z) ∧ ¬ z = 0 ∧ 0 < A.slots.size ∧ A.slots.size ≤ 536870912 ∧ ∀ i, i < A.slots.size → ¬ 255 < cv A i
def E (a : Addr) (D : Cell) (fV fC : Field) (A : Cell) (r : Option Value) (s u : State) : Prop := Got a D fV fC A 0 A.slots.size r s u
/-- new String(chars), not empty, no char above 255: a Latin-1 String of their low bytes -/
theorem law (l : Launch) (a : Addr) (D : Cell) (fV fC : Field) (b : Addr) (A : Cell) (z : Int32) : Law l yN 2 1 3 52 yB 2 none site (P a D fV fC b A z) (E a D fV fC A) [⟨a, fC.slot⟩, ⟨a, fV.slot⟩] 1 A.slots.size := by
  refine Law.of_walk (plainFor_of_name (by decide +kernel)) (by decide +kernel) (by decide +kernel) (by decide) (fun _ _ h => by rw [h.1]; rfl) (fun _ U U' hal hh h => ⟨h.1, h.2.1.mv hal hh, h.2.2.1.al hal, h.2.2.2.1.al hal, h.2.2.2.2.1.mv hal hh, h.2.2.2.2.2.1.there hal hh, h.2.2.2.2.2.2⟩) (fun r U U' V V' h1 hal h2 h => Got.mv r U U' V V' h1 hal h2 h) ?_
  intro p e s m args below meth c s₁ X0 hexec hbytes hml hret hlk hnm hown hh0 W hP
  obtain ⟨rfl, hB, f1, f2, hA, s1, hz, l0, l2, hp⟩ := hP
  have c1 : Steps p.tables e below (s₁.setTop (entryFrame m #[.ref a, .ref b] 2)) (s₁.setTop (mkF m 0 #[.val (.ref a), .val (.ref b)] [])) := entry rfl
  have c2 : Steps p.tables e below (s₁.setTop (entryFrame m #[.ref a, .ref b] 2)) (s₁.setTop (mkF m 6 #[.val (.ref a), .val (.ref b)] [.null, .int (Int32.ofNat A.slots.size), .int 0, .ref b, .ref a])) := c1.trans (by
    refine XS.aloadN X0.here hexec rfl (hb hbytes d0) rfl rfl ?_
    refine XS.aloadN X0.here hexec rfl (hb hbytes d1) rfl rfl ?_
    refine iconstV X0.here hexec rfl 0 (hb hbytes d2) (by decide) ?_
    refine XS.aloadN X0.here hexec rfl (hb hbytes d3) rfl rfl ?_
    refine X0.alen hexec (hA.1.mv X0.warmed.alike hh0) rfl rfl (hb hbytes d4) ?_
    refine XS.aconstNull X0.here hexec rfl (hb hbytes d5) ?_
    exact Steps.refl _)
  obtain ⟨v3, T3, X3, E3, g3⟩ := X0.callN hexec (New4.law l a D fV fC b A z 0 A.slots.size) rfl hown (wks W (initW "java/lang/String" 27 New4.yN)) (W New4.tab (by simp only [site, List.mem_cons, List.mem_append, true_or, or_true])) (W := 0) (Nat.le_of_ble_eq_true rfl) (Nat.le_of_ble_eq_true rfl) (Nat.le_refl _) (by show 0 + A.slots.size ≤ A.slots.size; omega) (g := (mkF m 6 #[.val (.ref a), .val (.ref b)] [.null, .int (Int32.ofNat A.slots.size), .int (Int32.ofNat 0), .ref b, .ref a])) rfl (by rw [hml]; rfl) c2 (argsL := [.ref b, .int (Int32.ofNat 0), .int (Int32.ofNat A.slots.size), .null]) (rest := []) rfl rfl (by show 2 * 0 + 0 ≤ _; decide) (hb hbytes d6) (⟨rfl, hB.mv X0.warmed.alike hh0, f1.al X0.warmed.alike, f2.al X0.warmed.alike, hA.mv X0.warmed.alike hh0, s1.there X0.warmed.alike hh0, hz, l0, by omega, l2, fun i hi => by rw [Nat.zero_add]; exact hp i hi⟩)
  have e0 := Got.mv _ s₁ s _ _ hh0.symm (Vm.Alike.refl _) rfl E3
  obtain rfl := e0.1
  have c4 : Steps p.tables e below (s₁.setTop (entryFrame m #[.ref a, .ref b] 2)) (T3.setTop (mkF m 9 #[.val (.ref a), .val (.ref b)] [])) := g3
  exact ⟨T3, none, _, _, _, X3, by simp, rfl, by omega, (fun _ => rfl), e0, fun fs hl => c4.trans (X3.returnOut hexec hret (hb hbytes d9) hl)⟩
theorem pays {l : Launch} {R : Room} {p : Program} {e : Env} {below : List Frame} {s : State} {sargs : Array Value} {len W : Nat} (a : Addr) (D : Cell) (fV fC : Field) (b : Addr) (A : Cell) (z : Int32) (htab : tab.before sargs s = true) (hfr : 4 ≤ R.frames) (hlo : W + 65 ≤ R.locals) :
    Back l R p e below s sargs yN len W (fun A₁ a₁ => A₁.cells + 1 ≤ R.cells ∧ A₁.slots + A.slots.size ≤ R.slots ∧ P a D fV fC b A z a₁ A₁.U) (fun A₁ _ v₁ B₁ => E a D fV fC A v₁ A₁.U B₁.U ∧ B₁.locs = A₁.locs ++ [⟨a, fC.slot⟩, ⟨a, fV.slot⟩] ∧ B₁.cells = A₁.cells + 1 ∧ B₁.slots = A₁.slots + A.slots.size) :=
  (law l a D fV fC b A z).pays htab hfr (by omega)
end New1
/-- the byte, read back as charAt reads it, is the char -/
theorem lo8_mask {x : Int32} (h0 : ¬ x < 0) (h1 : ¬ 255 < x) : lo8 x &&& 255 = x := by
  have t : ∀ k : Fin 256, lo8 (Int32.ofNat k.val) &&& 255 = Int32.ofNat k.val := by decide +kernel
  rw [Int32.lt_iff_toInt_lt] at h0 h1
  have e0 : (0 : Int32).toInt = 0 := rfl
  have e1 : (255 : Int32).toInt = 255 := rfl
  obtain ⟨k, hk⟩ : ∃ k : Nat, x.toInt = k := ⟨x.toInt.toNat, by omega⟩
  have hx : x = Int32.ofNat k := Int32.toInt_inj.mp (by rw [hk, Int32.toInt_ofNat_small (by omega)])
  rw [hx]
  exact t ⟨k, by omega⟩
end StrChars
namespace StrChars.Road
open Jvm Sem ClassFile Op Lib Jvm.Stand Jvm.Free Jvm.Free.XT
open Jvm.Lib.Cold (StaticIs)
abbrev ST : String := "java/lang/String"
/-- every table word that New1's law asks, flat -/
abbrev words : List Jvm.Cond := [.code New1.yN New1.yB 2 none, .initialized ST, .methodLink ST 27 New4.yN, .instanceMethod New4.yN,
  .code New4.yN New4.yB 6 none, .fieldLink ST 38 ST "COMPACT_STRINGS" "Z", .laysFinal ST ST "value" "[B", .fieldLink ST 9 ST "value" "[B", .laysFinal ST ST "coder" "B", .fieldLink ST 15 ST "coder" "B",
  .methodLink ST 1 Lib.objectInit, .instanceMethod Lib.objectInit, .code Lib.objectInit ⟨#[0xb1]⟩ 1 none, .methodLink ST 177 Cmp3.yN, .static Cmp3.yN, .methodLink ST 47 CodL.yN, .static CodL.yN,
  .code Cmp3.yN Cmp3.yB 6 (some (.array .byte)), .initialized U16, .arrayClass .byte, .methodLink U16 115 Cmp5.yN, .static Cmp5.yN, .code Cmp5.yN Cmp5.yB 7 (some .int), .code CodL.yN CodL.yB 2 (some .byte)]
theorem tab_of {a : Array Value} {s : State} (h : ∀ w ∈ words, w.before a s = true) : New1.tab.before a s = true := by
  have h5 : Cmp5.tab.before a s = true := unparts (wk h (.code Cmp5.yN Cmp5.yB 7 (some .int))) (wks h (.initialized Cmp5.yN.cls :: Cmp5.site))
  have hc : CodL.tab.before a s = true := unparts (wk h (.code CodL.yN CodL.yB 2 (some .byte))) (wks h (.initialized CodL.yN.cls :: CodL.site))
  have q5 : ∀ w ∈ Cmp5.tab :: words, w.before a s = true := fun w hw => (List.mem_cons.mp hw).elim (fun e => e ▸ h5) (h w)
  have h3 : Cmp3.tab.before a s = true := unparts (wk q5 (.code Cmp3.yN Cmp3.yB 6 (some (.array .byte)))) (wks q5 (.initialized Cmp3.yN.cls :: Cmp3.site))
  have q3 : ∀ w ∈ Cmp3.tab :: CodL.tab :: words, w.before a s = true := fun w hw => (List.mem_cons.mp hw).elim (fun e => e ▸ h3) fun hw => (List.mem_cons.mp hw).elim (fun e => e ▸ hc) (h w)
  have h4 : New4.tab.before a s = true := unparts (wk q3 (.code New4.yN New4.yB 6 none)) (wks q3 (.initialized New4.yN.cls :: New4.site))
  have q4 : ∀ w ∈ New4.tab :: words, w.before a s = true := fun w hw => (List.mem_cons.mp hw).elim (fun e => e ▸ h4) (h w)
  exact unparts (wk q4 (.code New1.yN New1.yB 2 none)) (wks q4 (.initialized New1.yN.cls :: New1.site))
/-- the words ride from the start Z to the walk's own state -/
theorem moved {Z s : State} {a0 args : Array Value} (hZ : Z.Warmed39 s.vm) (hw : ∀ d ∈ words, d.before a0 Z = true) : ∀ d ∈ words, d.before args s = true := fun d hd => by
  have q := hw d hd
  have t : ∀ d ∈ words, d = .arrayClass .byte ∨ (d.onTables && d.keepsFace) = true := by decide +kernel
  rcases t d hd with rfl | t
  · exact RoadKit.mvA hZ q
  · exact RoadKit.mv hZ q t
/-- WHAT COMES BACK, over the tables of the start Z: h the heap at the call, h' behind it -/
def Q (Z : State) (x : Addr) (A : Cell) (h : Heap) (v : Option Value) (h' : Heap) (L : List Loc) : Prop := v = none ∧ (∀ y ∈ L, y.base = x) ∧ RoadKit.Keep h h' [x] ∧ h'.size = h.size + 1 ∧ RoadKit.Exa Z h' x ST ∧ RoadKit.Fld Z h' x ST "value" "[B" (.ref h.size) ∧ RoadKit.Fld Z h' x ST "coder" "B" (.int 0) ∧
  (∃ V : Cell, RoadKit.Arr Z h' h.size V .byte ∧ V.vm = .none ∧ Z.vm.findClass "[B" = some V.cls ∧ V.slots.size = A.slots.size ∧ ∀ j, j < A.slots.size → V.slots[j]? = some (.int (lo8 (cv A j)))) ∧
  ∀ (O n d : String) (w : Value), RoadKit.Fld Z h x O n d w → RoadKit.slotOf Z O n d ≠ RoadKit.slotOf Z ST "value" "[B" → RoadKit.slotOf Z O n d ≠ RoadKit.slotOf Z ST "coder" "B" → RoadKit.Fld Z h' x O n d w
/-- **new String(chars) AT A CALL, IN THE ROAD'S FORM**: for specialBack behind newO: x the fresh String, b the char[] with the cell A -/
theorem back {p : Program} {l : Launch} {e : Env} {R : Room} {s : State} {args : Array Value} {below : List Frame} {len W : Nat} {Z : State} {a0 : Array Value} {h : Heap} (hZ : Z.Warmed39 s.vm) (hw : ∀ d ∈ words, d.before a0 Z = true) {kI : Nat} (wi : (Jvm.Cond.instantiable ST kI).before a0 Z = true)
    {x b : Addr} {A : Cell} {z : Int32} {v0 c0 : Value} (E : RoadKit.Exa Z h x ST) (V : RoadKit.Fld Z h x ST "value" "[B" v0) (C : RoadKit.Fld Z h x ST "coder" "B" c0) (K : RoadKit.Arr Z h b A .char) (hty : Typed .char A) (S : RoadKit.Sta Z h ST "COMPACT_STRINGS" "Z" (.int z)) (hz : ¬ z = 0)
    (l0 : 0 < A.slots.size) (l2 : A.slots.size ≤ 536870912) (hp : ∀ i, i < A.slots.size → ¬ 255 < cv A i) (hfr : 4 ≤ R.frames) (hlo : W + 65 ≤ R.locals) :
    Back l R p e below s args New1.yN len W (fun P a => a = #[.ref x, .ref b] ∧ P.U.heap = h ∧ P.cells + 1 ≤ R.cells ∧ P.slots + A.slots.size ≤ R.slots)
      (fun P _ v B => ∃ L, Q Z x A h v B.U.heap L ∧ B.locs = P.locs ++ L ∧ B.cells = P.cells + 1 ∧ B.slots = P.slots + A.slots.size) := by
  intro m meth c P g ig mk a X hg hsize hdg hW hn hp'
  obtain ⟨rfl, rfl, r1, r2⟩ := hp'
  have al : Z.vm.Alike P.U.vm := hZ.alike.trans X.warmed.alike
  obtain ⟨D, cfV, kV, iV, fV, hD, gV, stV, knV, obV, asV, slV⟩ := id V
  obtain ⟨D', cfC, kC, iC, fC, hD', gC, stC, -, -, asC, slC⟩ := id C
  cases hD.symm.trans hD'
  obtain ⟨D2, kD, e1, e2, e3, e4, e5⟩ := id E
  cases hD.symm.trans e1
  obtain ⟨c2, k2, i1, i2, i3, -⟩ := Cond.instantiable_spec wi
  cases e2.symm.trans i1
  cases e3.symm.trans i2
  obtain ⟨kU, u1, u2⟩ := al.2.2 _ _ e3
  have hB : Blank ST x D P.U := ⟨hD, ⟨knV, fun q hq => by rw [hq] at obV; cases obV⟩, by rw [al.findClass]; exact e2, kU, u1, by rw [u2]; exact i3, by rw [u2]; exact e5 i3⟩
  have F1 : Found ST "value" "[B" fV P.U := ⟨SBG.found_only al ⟨cfV, kV, iV, gV⟩, stV⟩
  have F2 : Found ST "coder" "B" fC P.U := ⟨SBG.found_only al ⟨cfC, kC, iC, gC⟩, stC⟩
  have hA : Ch b A P.U := ⟨⟨K.1, State.isArrayOf_alike al K.2.1, K.2.2, by omega⟩, hty⟩
  have hS : StaticIs P.U ST "COMPACT_STRINGS" "Z" (.int z) := by
    obtain ⟨cfS, iS, kS, fS, st, cS, t1, t2, t3, t4, t5, t6, t7⟩ := S
    exact StaticIs.there (s := { Z with heap := P.U.heap }) ⟨cfS, iS, kS, fS, st, cS, t1, t2, t3, t4, t5, (fun q => by rw [q] at t6; cases t6), t7⟩ al rfl
  obtain ⟨v, B, X', ⟨⟨hv, E', V', q1, q2, q3, q4, q5, q6, q7, q8, q9, q10, q11⟩, hl, hc, hs⟩, st⟩ := New1.pays x D fV fC b A z (tab_of (moved hZ hw)) hfr hlo m meth c P g ig mk _ X hg hsize hdg hW hn ⟨r1, r2, rfl, hB, F1, F2, hA, hS, hz, l0, l2, hp⟩
  have al' : Z.vm.Alike B.U.vm := hZ.alike.trans X'.warmed.alike
  have hsz : E'.slots.size = D.slots.size := by
    obtain ⟨-, -, -, kB, w1, w2, w3⟩ := q1
    obtain ⟨kB', y1, y2⟩ := al'.2.2 _ _ e3
    rw [q2.2.1] at w1
    cases w1.symm.trans y1
    rw [w3, e5 i3, y2]
  refine ⟨v, B, X', ⟨_, ⟨hv, ?_, ⟨by omega, fun y cy hy hn' => q10 y cy (by simpa using hn') hy, fun y cy hy => ?_⟩, q11, ⟨E', _, q1.1, by rw [q2.2.1]; exact e2, by rw [q2.2.1]; exact e3, by rw [q2.1]; exact obV, fun _ => by rw [hsz]; exact e5 i3⟩,
    ⟨E', cfV, kV, iV, fV, q1.1, gV, stV, by rw [q2.1]; exact knV, by rw [q2.1]; exact obV, by rw [q2.2.1]; exact asV, q3⟩, ⟨E', cfC, kC, iC, fC, q1.1, gC, stC, by rw [q2.1]; exact knV, by rw [q2.1]; exact obV, by rw [q2.2.1]; exact asC, q4⟩,
    ⟨V', ⟨q5.1, State.isArrayOf_alike al'.symm q5.2.1, q5.2.2.1⟩, q6, by rw [← al'.findClass]; exact q7, q8, fun j hj => by have := q9 j hj; rwa [Nat.zero_add] at this⟩, fun O n d w F n1 n2 => ?_⟩, hl, hc, hs⟩, st⟩
  · intro y hy
    simp only [List.mem_cons, List.not_mem_nil, or_false] at hy
    rcases hy with rfl | rfl <;> rfl
  · by_cases q : y = x
    · subst q
      cases hD.symm.trans hy
      exact ⟨E', q1.1, q2.2.1, q2.1, hsz⟩
    · exact ⟨cy, q10 y cy q hy, rfl, rfl, rfl⟩
  · obtain ⟨D3, cf, k, i, f, g1, g2, g3, g4, g5, g6, g7⟩ := F
    cases hD.symm.trans g1
    simp only [RoadKit.slotOf, g2, gV, gC, Option.map_some, Option.getD_some] at n1 n2
    exact ⟨E', cf, k, i, f, q1.1, g2, g3, by rw [q2.1]; exact g4, by rw [q2.1]; exact g5, by rw [q2.2.1]; exact g6, by rw [q2.2.2 f.slot (by simp [n1, n2])]; exact g7⟩
end StrChars.Road
namespace StrChars.Road
open Jvm Sem ClassFile Op Lib Jvm.Stand Jvm.Free Jvm.Free.XT
/-- WHAT COMES BACK, the byte[] as a list of values -/
def QA (Z : State) (x : Addr) (zn : Int32) (cs : List Int32) (h : Heap) (v : Option Value) (h' : Heap) (L : List Loc) : Prop := v = none ∧ (∀ y ∈ L, y.base = x) ∧ RoadKit.Keep h h' [x] ∧ h'.size = h.size + 1 ∧ RoadKit.Exa Z h' x ST ∧ RoadKit.Fld Z h' x ST "value" "[B" (.ref h.size) ∧ RoadKit.Fld Z h' x ST "coder" "B" (.int 0) ∧
  (∃ kb, Z.vm.findClass "[B" = some kb ∧ RoadKit.Arv Z h' h.size kb .byte zn (cs.map fun c => .int (lo8 c)) (.int 0)) ∧
  ∀ (O n d : String) (w : Value), RoadKit.Fld Z h x O n d w → RoadKit.slotOf Z O n d ≠ RoadKit.slotOf Z ST "value" "[B" → RoadKit.slotOf Z O n d ≠ RoadKit.slotOf Z ST "coder" "B" → RoadKit.Fld Z h' x O n d w
/-- **new String(chars) AT A CALL, THE ARRAYS AS LISTS**: the char[] at b holds cs, not empty, no char above 255 -/
theorem backArv {p : Program} {l : Launch} {e : Env} {R : Room} {s : State} {args : Array Value} {below : List Frame} {len W : Nat} {Z : State} {a0 : Array Value} {h : Heap} (hZ : Z.Warmed39 s.vm) (hw : ∀ d ∈ words, d.before a0 Z = true) {kI : Nat} (wi : (Jvm.Cond.instantiable ST kI).before a0 Z = true)
    {x b : Addr} {k : ClassId} {zn z : Int32} {cs : List Int32} {dv v0 c0 : Value} (E : RoadKit.Exa Z h x ST) (V : RoadKit.Fld Z h x ST "value" "[B" v0) (C : RoadKit.Fld Z h x ST "coder" "B" c0) (K : RoadKit.Arv Z h b k .char zn (cs.map Value.int) dv) (S : RoadKit.Sta Z h ST "COMPACT_STRINGS" "Z" (.int z)) (hz : ¬ z = 0)
    (hlen : zn.toNatClampNeg = cs.length) (h0 : 0 < cs.length) (hbig : cs.length ≤ 536870912) (hall : ∀ c ∈ cs, ¬ 255 < c) (hfr : 4 ≤ R.frames) (hlo : W + 65 ≤ R.locals) :
    Back l R p e below s args New1.yN len W (fun P a => a = #[.ref x, .ref b] ∧ P.U.heap = h ∧ P.cells + 1 ≤ R.cells ∧ P.slots + cs.length ≤ R.slots)
      (fun P _ v B => ∃ L, QA Z x zn cs h v B.U.heap L ∧ B.locs = P.locs ++ L ∧ B.cells = P.cells + 1 ∧ B.slots = P.slots + cs.length) := by
  obtain ⟨A, K1, K2, K3, K4, K5, K6⟩ := K
  have e : A.slots.size = cs.length := K3.trans hlen
  have hat : ∀ (i : Nat) (hi : i < cs.length), A.slots[i]? = some (.int cs[i]) := fun i hi => by rw [K5 i (by omega)]; simp [List.getD_eq_getElem?_getD, hi]
  have hcv : ∀ (i : Nat) (hi : i < cs.length), cv A i = cs[i] := fun i hi => by unfold cv; rw [hat i hi]
  have hty : Typed .char A := fun i v hv => by
    have hi : i < A.slots.size := (Array.getElem?_eq_some_iff.mp hv).1
    have q := K5 i hi
    rw [hv] at q
    rw [Option.some.inj q]
    exact K6 i hi
  refine Back.mono (back hZ hw wi E V C K1 hty S hz (by omega) (by omega) (fun i hi => by rw [hcv i (by omega)]; exact hall _ (List.getElem_mem _)) hfr hlo) (fun P a hp => ⟨hp.1, hp.2.1, hp.2.2.1, by rw [e]; exact hp.2.2.2⟩) (fun P a v B hp hq => ?_)
  obtain ⟨L, ⟨q1, q2, q3, q4, q5, q6, q7, ⟨V', v1, v2, v3, v4, v5⟩, q9⟩, hl, hc, hs⟩ := hq
  refine ⟨L, ⟨q1, q2, q3, q4, q5, q6, q7, ⟨V'.cls, v3, V', v1, rfl, by rw [v4, e, hlen], K4, fun i hi => ?_, fun i hi => ?_⟩, q9⟩, hl, hc, by rw [hs, e]⟩
  · have hi' : i < cs.length := by omega
    rw [v5 i (by omega), hcv i hi']; simp [List.getD_eq_getElem?_getD, hi']
  · have hi' : i < cs.length := by omega
    simp only [List.getD_eq_getElem?_getD, List.getElem?_map, List.getElem?_eq_getElem hi', Option.map_some, Option.getD_some]
    exact fits_lo8 _
end StrChars.Road
namespace StrChars.Road
open Jvm Sem ClassFile Op Lib Jvm.Stand Jvm.Free Jvm.Free.XT
/-- WHAT COMES BACK, in the writer's own shape -/
def QV (Z : State) (x : Addr) (N : Int32) (bs : List Int32) (h : Heap) (n0 : Nat) (v : Option Value) (h' : Heap) (L : List Loc) : Prop := v = none ∧ RoadKit.Fr n0 L ∧ RoadKit.Keep h h' [x] ∧ RoadKit.Exa Z h' x ST ∧ RoadKit.Fld Z h' x ST "coder" "B" (.int 0) ∧
  ∃ (t : Addr) (kb : ClassId), n0 ≤ t ∧ h.size ≤ t ∧ ¬ t = x ∧ RoadKit.Fld Z h' x ST "value" "[B" (.ref t) ∧ RoadKit.Arv Z h' t kb .byte N (bs.map Value.int) (.int 0)
/-- **new String(chars) AT A CALL, FOR THE WRITER**: a char[] of n known ints, each 0 to 255 -/
theorem backV {p : Program} {l : Launch} {e : Env} {R : Room} {s : State} {args : Array Value} {below : List Frame} {len W : Nat} {Z : State} {a0 : Array Value} {h : Heap} (hZ : Z.Warmed39 s.vm) (hw : ∀ d ∈ words, d.before a0 Z = true) {kI : Nat} (wi : (Jvm.Cond.instantiable ST kI).before a0 Z = true)
    {x b : Addr} {kC : ClassId} {cs bs : List Int32} {d v0 c0 : Value} {z N : Int32} {n n0 : Nat} (hx0 : n0 ≤ x) (hh0 : n0 ≤ h.size) (E : RoadKit.Exa Z h x ST) (V : RoadKit.Fld Z h x ST "value" "[B" v0) (C : RoadKit.Fld Z h x ST "coder" "B" c0) (K : RoadKit.Arv Z h b kC .char N (cs.map Value.int) d) (S : RoadKit.Sta Z h ST "COMPACT_STRINGS" "Z" (.int z)) (hz : ¬ z = 0)
    (hn : cs.length = n) (hN : N = Int32.ofNat n) (l0 : 0 < n) (l2 : n ≤ 4000) (hp : ∀ c ∈ cs, ¬ c < 0 ∧ ¬ (255 : Int32) < c) (hb : bs = cs.map (fun c => c.toInt8.toInt32)) (hfr : 4 ≤ R.frames) (hlo : W + 65 ≤ R.locals) :
    Back l R p e below s args (⟨"java/lang/String", "<init>", "([C)V"⟩ : MethodName) len W (fun P a => a = #[.ref x, .ref b] ∧ P.U.heap = h ∧ P.cells + 1 ≤ R.cells ∧ P.slots + n ≤ R.slots)
      (fun P _ v B => ∃ L, QV Z x N bs h n0 v B.U.heap L ∧ B.locs = P.locs ++ L ∧ B.cells = P.cells + 1 ∧ B.slots = P.slots + n) := by
  subst hn hN hb
  refine Back.mono (backArv hZ hw wi E V C K S hz (n32 (by omega)) l0 (by omega) (fun c hc => (hp c hc).2) hfr hlo) (fun P a hp => hp) (fun P a v B hp hq => ?_)
  obtain ⟨L, ⟨q1, q2, q3, q4, q5, q6, q7, ⟨kb, v1, v2⟩, q9⟩, hl, hc, hs⟩ := hq
  exact ⟨L, ⟨q1, fun y hy => by rw [q2 y hy]; exact hx0, q3, q5, q7, h.size, kb, hh0, Nat.le_refl _, Nat.ne_of_gt E.lt, q6, by rw [List.map_map]; exact v2⟩, hl, hc, hs⟩
end StrChars.Road
namespace StrChars
open Jvm Sem ClassFile Op Lib Jvm.Stand Jvm.Free.XT Jvm.Free.ALB Jvm.Free.JM Jvm.Free
open Jvm.Lib.Cold (StaticIs)
def hi8 (x : Int32) : Int32 := lo8 (x >>> ((8 : Int32) &&& 31))
/-- what StringUTF16.getChar makes of two bytes -/
def pairCh (u v : Int32) : Int32 := (((u &&& 255) <<< ((0 : Int32) &&& 31)) ||| ((v &&& 255) <<< ((8 : Int32) &&& 31))).toUInt32.toUInt16.toUInt32.toInt32
theorem lo8_and (x : Int32) : (lo8 x &&& 255).toBitVec.toNat = x.toBitVec.toNat % 256 := by
  have h : (lo8 x).toBitVec = (x.toBitVec.signExtend 8).signExtend 32 := by rw [lo8, Int8.toBitVec_toInt32, Int32.toBitVec_toInt8]
  rw [Int32.toBitVec_and, BitVec.toNat_and, h]
  have e : ((x.toBitVec.signExtend 8).signExtend 32).toNat % 256 = x.toBitVec.toNat % 256 := by
    rw [BitVec.toNat_signExtend]
    have hlt := x.toBitVec.isLt
    simp only [BitVec.toNat_setWidth, BitVec.toNat_signExtend]
    split <;> split <;> omega
  rw [← e]
  exact Nat.and_two_pow_sub_one_eq_mod _ 8
theorem pair_says {c : Int32} (h0 : ¬ c < 0) (h1 : ¬ 65535 < c) : pairCh (lo8 c) (hi8 c) = c := by
  rw [Int32.lt_iff_toInt_lt] at h0 h1
  have e0 : (0 : Int32).toInt = 0 := rfl
  have e1 : (65535 : Int32).toInt = 65535 := rfl
  have hc : c.toInt = c.toBitVec.toNat := by
    have := c.toBitVec.isLt
    have e : c.toInt = c.toBitVec.toInt := rfl
    rw [e] at h0 h1
    rw [e]
    rw [BitVec.toInt_eq_toNat_cond] at h0 h1 ⊢
    split at h0 <;> split <;> omega
  have hn : c.toBitVec.toNat < 65536 := by omega
  have a1 := lo8_and c
  have a2 : (hi8 c &&& 255).toBitVec.toNat = c.toBitVec.toNat / 256 := by
    rw [hi8, lo8_and]
    have e : ((8 : Int32) &&& 31) = 8 := by decide
    rw [e, Int32.toBitVec_shiftRight]
    have e2 : ((8 : Int32).toBitVec.smod 32) = 8#32 := by decide
    rw [e2, BitVec.sshiftRight_eq', BitVec.toNat_sshiftRight_of_msb_false (by rw [BitVec.msb_eq_false_iff_two_mul_lt]; omega)]
    show c.toBitVec.toNat >>> 8 % 256 = _
    rw [Nat.shiftRight_eq_div_pow]
    omega
  unfold pairCh
  apply Int32.toBitVec_inj.mp
  apply BitVec.eq_of_toNat_eq
  have f0 : ((0 : Int32) &&& 31) = 0 := by decide
  have f8 : ((8 : Int32) &&& 31) = 8 := by decide
  rw [f0, f8]
  have g : (((lo8 c &&& 255) <<< (0 : Int32)) ||| ((hi8 c &&& 255) <<< (8 : Int32))).toBitVec.toNat = c.toBitVec.toNat := by
    rw [Int32.toBitVec_or, Int32.toBitVec_shiftLeft, Int32.toBitVec_shiftLeft]
    have s0 : ((0 : Int32).toBitVec.smod 32) = 0#32 := by decide
    have s8 : ((8 : Int32).toBitVec.smod 32) = 8#32 := by decide
    rw [s0, s8, BitVec.toNat_or]
    simp only [BitVec.shiftLeft_eq', BitVec.toNat_shiftLeft, a1, a2]
    show (c.toBitVec.toNat % 256) <<< 0 % 2 ^ 32 ||| (c.toBitVec.toNat / 256) <<< 8 % 2 ^ 32 = _
    rw [Nat.shiftLeft_zero, Nat.mod_eq_of_lt (show c.toBitVec.toNat % 256 < 2 ^ 32 by omega), Nat.mod_eq_of_lt (show (c.toBitVec.toNat / 256) <<< 8 < 2 ^ 32 by rw [Nat.shiftLeft_eq]; omega), Nat.or_comm, ← Nat.shiftLeft_add_eq_or_of_lt (by omega), Nat.shiftLeft_eq]
    omega
  show BitVec.toNat (((((lo8 c &&& 255) <<< (0 : Int32)) ||| ((hi8 c &&& 255) <<< (8 : Int32))).toBitVec.setWidth 16).setWidth 32) = _
  rw [BitVec.toNat_setWidth, BitVec.toNat_setWidth, g]
  omega
end StrChars
namespace StrChars
open Jvm Sem ClassFile Op Lib Jvm.Stand Jvm.Free.XT Jvm.Free.ALB Jvm.Free.JM Jvm.Free
open Jvm.Lib.Cold (StaticIs)
/-- the array's cell V codes the n chars f 0 .. f (n - 1) by the coder cd, as the JDK does: coder 1 just where some char is above 255 -/
def Cod (cd : Int32) (n : Nat) (f : Nat → Int32) (V : Cell) : Prop := (cd = 0 ∧ V.slots.size = n ∧ ∀ j, j < n → V.slots[j]? = some (.int (lo8 (f j))) ∧ ¬ 255 < f j) ∨ (cd = 1 ∧ V.slots.size = 2 * n ∧ (∀ j, j < n → V.slots[2 * j]? = some (.int (lo8 (f j))) ∧ V.slots[2 * j + 1]? = some (.int (hi8 (f j)))) ∧ ∃ j, j < n ∧ 255 < f j)
/-- **x is a String of the n chars f 0 .. f (n - 1)**, Latin-1 or UTF-16; its array at t has the cell V -/
def Txt (x t : Addr) (V : Cell) (cd : Int32) (n : Nat) (f : Nat → Int32) (U : State) : Prop := Exact "java/lang/String" x U ∧ Has x "java/lang/String" "value" "[B" (.ref t) U ∧ Has x "java/lang/String" "coder" "B" (.int cd) U ∧ XT.Arr .byte t V U ∧ Cod cd n f V ∧ ∀ j, j < n → ¬ f j < 0 ∧ ¬ 65535 < f j
theorem Txt.mv {x t : Addr} {V : Cell} {cd : Int32} {n : Nat} {f : Nat → Int32} {U U' : State} (h : Txt x t V cd n f U) (hal : U.vm.Alike U'.vm) (hh : U'.heap = U.heap) : Txt x t V cd n f U' := ⟨h.1.mv hal hh, h.2.1.mv hal hh, h.2.2.1.mv hal hh, h.2.2.2.1.mv hal hh, h.2.2.2.2⟩
end StrChars
namespace StrChars.Road
open Jvm Sem ClassFile Op Lib Jvm.Stand Jvm.Free Jvm.Free.XT
open Jvm.Lib.Cold (StaticIs)
theorem consq {a : Array Value} {s : State} {c : Jvm.Cond} {L : List Jvm.Cond} (h0 : c.before a s = true) (h : ∀ w ∈ L, w.before a s = true) : ∀ w ∈ c :: L, w.before a s = true := fun w hw => (List.mem_cons.mp hw).elim (fun e => e ▸ h0) (h w)
/-- the bytes of the chars cs, low before high -/
def wideBytes : List Int32 → List Value
  | [] => []
  | c :: cs => .int (lo8 c) :: .int (hi8 c) :: wideBytes cs
theorem wide_lo (d : Value) : ∀ (cs : List Int32) (j : Nat), j < cs.length → (wideBytes cs).getD (2 * j) d = .int (lo8 (cs.getD j 0))
  | [], j, h => absurd h (Nat.not_lt_zero j)
  | c :: cs, 0, _ => rfl
  | c :: cs, j + 1, h => by
    have q := wide_lo d cs j (by simpa using h)
    rw [show 2 * (j + 1) = 2 * j + 1 + 1 from by omega]
    simpa [wideBytes] using q
theorem wide_hi (d : Value) : ∀ (cs : List Int32) (j : Nat), j < cs.length → (wideBytes cs).getD (2 * j + 1) d = .int (hi8 (cs.getD j 0))
  | [], j, h => absurd h (Nat.not_lt_zero j)
  | c :: cs, 0, _ => rfl
  | c :: cs, j + 1, h => by
    have q := wide_hi d cs j (by simpa using h)
    rw [show 2 * (j + 1) + 1 = 2 * j + 1 + 1 + 1 from by omega]
    simpa [wideBytes] using q
theorem low_at (d : Value) (cs : List Int32) (j : Nat) (h : j < cs.length) : (cs.map fun c => Value.int (lo8 c)).getD j d = .int (lo8 (cs.getD j 0)) := by
  simp [List.getD_eq_getElem?_getD, h]
/-- an array of N2 bytes vs codes the chars cs by the coder cd -/
def CodA (cs : List Int32) (cd N2 : Int32) (vs : List Value) : Prop := (cd = 0 ∧ N2 = Int32.ofNat cs.length ∧ vs = (cs.map fun c => Value.int (lo8 c)) ∧ ∀ c ∈ cs, ¬ 255 < c) ∨ (cd = 1 ∧ N2 = Int32.ofNat (2 * cs.length) ∧ vs = wideBytes cs ∧ ∃ c ∈ cs, 255 < c)
theorem CodA.cod {cs : List Int32} {cd N2 : Int32} {vs : List Value} {V : Cell} (h : CodA cs cd N2 vs) (hn : 2 * cs.length < 2 ^ 31) (hs : V.slots.size = N2.toNatClampNeg) (hv : RoadKit.Has V vs (.int 0)) : Cod cd cs.length (fun j => cs.getD j 0) V := by
  rcases h with ⟨rfl, rfl, rfl, h⟩ | ⟨rfl, rfl, rfl, c, hc, hw⟩
  · rw [n32 (by omega)] at hs
    exact Or.inl ⟨rfl, hs, fun j hj => ⟨by rw [hv j (by omega), low_at _ _ _ hj], by
      have e : cs.getD j 0 = cs[j] := by simp [List.getD_eq_getElem?_getD, hj]
      show ¬ 255 < cs.getD j 0
      rw [e]; exact h _ (List.getElem_mem _)⟩⟩
  · rw [n32 (by omega)] at hs
    obtain ⟨j, hj, rfl⟩ := List.getElem_of_mem hc
    exact Or.inr ⟨rfl, hs, fun j hj => ⟨by rw [hv _ (by omega), wide_lo _ _ _ hj], by rw [hv _ (by omega), wide_hi _ _ _ hj]⟩, j, hj, by
      have e : cs.getD j 0 = cs[j] := by simp [List.getD_eq_getElem?_getD, hj]
      show 255 < cs.getD j 0
      rw [e]; exact hw⟩
/-- an object of exactly java/lang/String, its two fields found: as the laws ask it -/
theorem strObj {Z U : State} {a0 : Array Value} {kI : Nat} (wi : (Jvm.Cond.instantiable ST kI).before a0 Z = true) (al : Z.vm.Alike U.vm) {x : Addr} {v0 c0 : Value} (E : RoadKit.Exa Z U.heap x ST) (V : RoadKit.Fld Z U.heap x ST "value" "[B" v0) (C : RoadKit.Fld Z U.heap x ST "coder" "B" c0) :
    ∃ (D : Cell) (fV fC : Field), Blank ST x D U ∧ Found ST "value" "[B" fV U ∧ Found ST "coder" "B" fC U ∧ D.slots[fV.slot]? = some v0 ∧ D.slots[fC.slot]? = some c0 ∧ RoadKit.slotOf Z ST "value" "[B" = fV.slot ∧ RoadKit.slotOf Z ST "coder" "B" = fC.slot := by
  obtain ⟨D, cfV, kV, iV, fV, hD, gV, stV, knV, obV, asV, slV⟩ := V
  obtain ⟨D', cfC, kC, iC, fC, hD', gC, stC, -, -, asC, slC⟩ := C
  cases hD.symm.trans hD'
  obtain ⟨D2, kD, e1, e2, e3, e4, e5⟩ := E
  cases hD.symm.trans e1
  obtain ⟨c2, k2, i1, i2, i3, -⟩ := Cond.instantiable_spec wi
  cases e2.symm.trans i1
  cases e3.symm.trans i2
  obtain ⟨kU, u1, u2⟩ := al.2.2 _ _ e3
  exact ⟨D, fV, fC, ⟨hD, ⟨knV, fun q hq => by rw [hq] at obV; cases obV⟩, by rw [al.findClass]; exact e2, kU, u1, by rw [u2]; exact i3, by rw [u2]; exact e5 i3⟩, ⟨SBG.found_only al ⟨cfV, kV, iV, gV⟩, stV⟩, ⟨SBG.found_only al ⟨cfC, kC, iC, gC⟩, stC⟩, slV, slC, by simp [RoadKit.slotOf, gV], by simp [RoadKit.slotOf, gC]⟩
theorem sta_is {Z U : State} (al : Z.vm.Alike U.vm) {C n d : String} {v : Value} (S : RoadKit.Sta Z U.heap C n d v) : StaticIs U C n d v := by
  obtain ⟨cfS, iS, kS, fS, st, cS, t1, t2, t3, t4, t5, t6, t7⟩ := S
  exact StaticIs.there (s := { Z with heap := U.heap }) ⟨cfS, iS, kS, fS, st, cS, t1, t2, t3, t4, t5, (fun q => by rw [q] at t6; cases t6), t7⟩ al rfl
end StrChars.Road
namespace StrChars
open Jvm Sem ClassFile Op Lib Jvm.Stand Jvm.Free.XT Jvm.Free.ALB Jvm.Free.JM Jvm.Free
open Jvm.Lib.Cold (StaticIs)
/-- what place i of a byte[]'s cell holds -/
def yv (A : Cell) (i : Nat) : Int32 := match A.slots[i]? with | some (.int x) => x | _ => 0
theorem yv_get {a : Addr} {A : Cell} {U : State} (h : XT.Arr .byte a A U) (ht : Typed .byte A) {i : Nat} (hi : i < A.slots.size) : A.slots[i]? = some (.int (yv A i)) := by
  have e := Array.getElem?_eq_getElem hi
  have f := ht i _ e
  unfold yv; rw [e]
  generalize A.slots[i] = v at f
  cases v <;> simp [fits] at f ⊢
/-- the two arrays are equal, place for place -/
def EqC (A B : Cell) : Prop := A.slots.size = B.slots.size ∧ ∀ i, i < A.slots.size → yv A i = yv B i
/-- a boolean that says whether p -/
def Says01 (q : Prop) (r : Option Value) (s u : State) : Prop := ∃ v : Int32, r = some (.int v) ∧ u.heap = s.heap ∧ ((v = 1 ∧ q) ∨ (v = 0 ∧ ¬ q))
theorem Says01.mv {q : Prop} : ∀ r (U U' V V' : State), U'.heap = U.heap → V.vm.Alike V'.vm → V'.heap = V.heap → Says01 q r U V → Says01 q r U' V' :=
  fun r U U' V V' h1 _ h2 ⟨v, a, b, c⟩ => ⟨v, a, by rw [h1, h2]; exact b, c⟩
namespace LEq
def yN : MethodName := ⟨"java/lang/StringLatin1", "equals", "([B[B)Z"⟩
abbrev yB : ByteArray := jdk_43_method_13_code
theorem d0 : decode yB 0 = .ok (.aload_n 0, 1) := by decide +kernel
theorem d1 : decode yB 1 = .ok (.arraylength, 1) := by decide +kernel
theorem d2 : decode yB 2 = .ok (.aload_n 1, 1) := by decide +kernel
theorem d3 : decode yB 3 = .ok (.arraylength, 1) := by decide +kernel
theorem d4 : decode yB 4 = .ok (.if_icmp (.ne) 30, 3) := by decide +kernel
theorem d7 : decode yB 7 = .ok (.iconst 0, 1) := by decide +kernel
theorem d8 : decode yB 8 = .ok (.istore_n 2, 1) := by decide +kernel
theorem d9 : decode yB 9 = .ok (.iload_n 2, 1) := by decide +kernel
theorem d10 : decode yB 10 = .ok (.aload_n 0, 1) := by decide +kernel
theorem d11 : decode yB 11 = .ok (.arraylength, 1) := by decide +kernel
theorem d12 : decode yB 12 = .ok (.if_icmp (.ge) 20, 3) := by decide +kernel
theorem d15 : decode yB 15 = .ok (.aload_n 0, 1) := by decide +kernel
theorem d16 : decode yB 16 = .ok (.iload_n 2, 1) := by decide +kernel
theorem d17 : decode yB 17 = .ok (.baload, 1) := by decide +kernel
theorem d18 : decode yB 18 = .ok (.aload_n 1, 1) := by decide +kernel
theorem d19 : decode yB 19 = .ok (.iload_n 2, 1) := by decide +kernel
theorem d20 : decode yB 20 = .ok (.baload, 1) := by decide +kernel
theorem d21 : decode yB 21 = .ok (.if_icmp (.eq) 5, 3) := by decide +kernel
theorem d24 : decode yB 24 = .ok (.iconst 0, 1) := by decide +kernel
theorem d25 : decode yB 25 = .ok (.ireturn, 1) := by decide +kernel
theorem d26 : decode yB 26 = .ok (.iinc 2 1, 3) := by decide +kernel
theorem d29 : decode yB 29 = .ok (.goto (-20), 3) := by decide +kernel
theorem d32 : decode yB 32 = .ok (.iconst 1, 1) := by decide +kernel
theorem d33 : decode yB 33 = .ok (.ireturn, 1) := by decide +kernel
theorem d34 : decode yB 34 = .ok (.iconst 0, 1) := by decide +kernel
theorem d35 : decode yB 35 = .ok (.ireturn, 1) := by decide +kernel
def site : List Cond := []
def tab : Cond := tabOf yN yB 3 (some .boolean) site
def P (a : Addr) (A : Cell) (b : Addr) (B : Cell) (args : Array Value) (s : State) : Prop := args = #[.ref a, .ref b] ∧ XT.Arr .byte a A s ∧ Typed .byte A ∧ XT.Arr .byte b B s ∧ Typed .byte B
/-- whether two byte[] are equal, place for place -/
theorem law (l : Launch) (a : Addr) (A : Cell) (b : Addr) (B : Cell) : Law l yN 2 2 0 0 yB 3 (some .boolean) site (P a A b B) (Says01 (EqC A B)) [] 0 0 := by
  refine Law.of_walk (plainFor_of_name (by decide +kernel)) (by decide +kernel) (by decide +kernel) (by decide) (fun _ _ h => by rw [h.1]; rfl) (fun _ U U' hal hh h => ⟨h.1, h.2.1.mv hal hh, h.2.2.1, h.2.2.2.1.mv hal hh, h.2.2.2.2⟩) (fun r U U' V V' h1 hal h2 h => Says01.mv r U U' V V' h1 hal h2 h) ?_
  intro p e s m args below meth c s₁ X0 hexec hbytes hml hret hlk hnm hown hh0 W hP
  obtain ⟨rfl, hA, tA, hB, tB⟩ := hP
  have a31 := hA.2.2.2
  have b31 := hB.2.2.2
  have hA0 := hA.mv X0.warmed.alike hh0
  have hB0 := hB.mv X0.warmed.alike hh0
  have c1 : Steps p.tables e below (s₁.setTop (entryFrame m #[.ref a, .ref b] 3)) (s₁.setTop (mkF m 0 #[.val (.ref a), .val (.ref b), .unset] [])) := entry rfl
  have c2 : Steps p.tables e below (s₁.setTop (entryFrame m #[.ref a, .ref b] 3)) (s₁.setTop (mkF m 4 #[.val (.ref a), .val (.ref b), .unset] [.int (Int32.ofNat B.slots.size), .int (Int32.ofNat A.slots.size)])) := c1.trans (by
    refine XS.aloadN X0.here hexec rfl (hb hbytes d0) rfl rfl ?_
    refine X0.alen hexec hA0 rfl rfl (hb hbytes d1) ?_
    refine XS.aloadN X0.here hexec rfl (hb hbytes d2) rfl rfl ?_
    refine X0.alen hexec hB0 rfl rfl (hb hbytes d3) ?_
    exact Steps.refl _)
  by_cases hs : A.slots.size = B.slots.size
  · have c3 : Steps p.tables e below (s₁.setTop (entryFrame m #[.ref a, .ref b] 3)) (s₁.setTop (mkF m 9 #[.val (.ref a), .val (.ref b), .val (.int 0)] [])) := c2.trans (by
      refine XS.icmpNo X0.here hexec rfl (hb hbytes d4) rfl (ii_ne_f (by rw [hs])) ?_
      refine iconstV X0.here hexec rfl 0 (hb hbytes d7) (by decide) ?_
      refine XS.istoreN X0.here hexec rfl (hb hbytes d8) rfl rfl ?_
      exact Steps.refl _)
    have loop : ∀ (r i : Nat), i + r = A.slots.size → (∀ j, j < i → yv A j = yv B j) → Steps p.tables e below (s₁.setTop (entryFrame m #[.ref a, .ref b] 3)) (s₁.setTop (mkF m 9 #[.val (.ref a), .val (.ref b), .val (.int (Int32.ofNat i))] [])) → ∃ (pc : Nat) (Ls : Array Slot) (v : Int32), (pc = 25 ∨ pc = 33) ∧ ((v = 1 ∧ EqC A B) ∨ (v = 0 ∧ ¬ EqC A B)) ∧ Steps p.tables e below (s₁.setTop (entryFrame m #[.ref a, .ref b] 3)) (s₁.setTop (mkF m pc Ls [.int v])) := by
      intro r
      induction r with
      | zero =>
        intro i hi he cl
        exact ⟨33, _, 1, Or.inr rfl, Or.inl ⟨rfl, hs, fun j hj => he j (by omega)⟩, cl.trans (by
          refine XS.iloadN X0.here hexec rfl (hb hbytes d9) rfl ?_
          refine XS.aloadN X0.here hexec rfl (hb hbytes d10) rfl rfl ?_
          refine X0.alen hexec hA0 rfl rfl (hb hbytes d11) ?_
          refine XS.icmpYes X0.here hexec rfl (pc0 := 12) rfl (hb hbytes d12) rfl (ii_ge_t (nlt32 (by omega) (by omega))) (by decide) rfl ?_
          refine iconstV X0.here hexec rfl 1 (hb hbytes d32) (by decide) ?_
          exact Steps.refl _)⟩
      | succ r ih =>
        intro i hi he cl
        have c4 : Steps p.tables e below (s₁.setTop (entryFrame m #[.ref a, .ref b] 3)) (s₁.setTop (mkF m 21 #[.val (.ref a), .val (.ref b), .val (.int (Int32.ofNat i))] [.int (yv B i), .int (yv A i)])) := cl.trans (by
          refine XS.iloadN X0.here hexec rfl (hb hbytes d9) rfl ?_
          refine XS.aloadN X0.here hexec rfl (hb hbytes d10) rfl rfl ?_
          refine X0.alen hexec hA0 rfl rfl (hb hbytes d11) ?_
          refine XS.icmpNo X0.here hexec rfl (hb hbytes d12) rfl (ii_ge_f (lt32 (by omega) (by omega))) ?_
          refine XS.aloadN X0.here hexec rfl (hb hbytes d15) rfl rfl ?_
          refine XS.iloadN X0.here hexec rfl (hb hbytes d16) rfl ?_
          refine X0.aget hexec hA0 rfl (yv_get hA tA (i := i) (by omega)) rfl rfl (hb hbytes d17) ?_
          refine XS.aloadN X0.here hexec rfl (hb hbytes d18) rfl rfl ?_
          refine XS.iloadN X0.here hexec rfl (hb hbytes d19) rfl ?_
          refine X0.aget hexec hB0 rfl (yv_get hB tB (i := i) (by omega)) rfl rfl (hb hbytes d20) ?_
          exact Steps.refl _)
        by_cases hv : yv A i = yv B i
        · have c5 : Steps p.tables e below (s₁.setTop (entryFrame m #[.ref a, .ref b] 3)) (s₁.setTop (mkF m 9 #[.val (.ref a), .val (.ref b), .val (.int (Int32.ofNat i + 1))] [])) := c4.trans (by
            refine XS.icmpYes X0.here hexec rfl (pc0 := 21) rfl (hb hbytes d21) rfl (ii_eq_t hv) (by decide) rfl ?_
            refine iincV X0.here hexec rfl 1 (hb hbytes d26) (by decide) rfl rfl ?_
            refine XS.goto X0.here hexec rfl (pc0 := 29) rfl (hb hbytes d29) (by decide) rfl ?_
            exact Steps.refl _)
          rw [succ32] at c5
          exact ih (i + 1) (by omega) (fun j hj => by
            by_cases e : j = i
            · rw [e]; exact hv
            · exact he j (by omega)) c5
        · exact ⟨25, _, 0, Or.inl rfl, Or.inr ⟨rfl, fun q => hv (q.2 i (by omega))⟩, c4.trans (by
            refine XS.icmpNo X0.here hexec rfl (hb hbytes d21) rfl (ii_eq_f hv) ?_
            refine iconstV X0.here hexec rfl 0 (hb hbytes d24) (by decide) ?_
            exact Steps.refl _)⟩
    obtain ⟨pc, Ls, v, hpc, hv, cz⟩ := loop A.slots.size 0 (by omega) (fun j hj => absurd hj (Nat.not_lt_zero j)) c3
    have nv : narrow .boolean (.int v) = .int v := by rcases hv with ⟨rfl, -⟩ | ⟨rfl, -⟩ <;> rfl
    rcases hpc with rfl | rfl
    · exact ⟨s₁, some (.int v), _, _, _, X0, rfl, rfl, rfl, (fun h => by cases h), ⟨v, rfl, hh0, hv⟩, fun fs hl => cz.trans (X0.ireturnOut hexec hret nv (Or.inr (Or.inl rfl)) (hb hbytes d25) hl)⟩
    · exact ⟨s₁, some (.int v), _, _, _, X0, rfl, rfl, rfl, (fun h => by cases h), ⟨v, rfl, hh0, hv⟩, fun fs hl => cz.trans (X0.ireturnOut hexec hret nv (Or.inr (Or.inl rfl)) (hb hbytes d33) hl)⟩
  · have c3 : Steps p.tables e below (s₁.setTop (entryFrame m #[.ref a, .ref b] 3)) (s₁.setTop (mkF m 35 #[.val (.ref a), .val (.ref b), .unset] [.int 0])) := c2.trans (by
      refine XS.icmpYes X0.here hexec rfl (pc0 := 4) rfl (hb hbytes d4) rfl (ii_ne_t (ne32 a31 b31 hs)) (by decide) rfl ?_
      refine iconstV X0.here hexec rfl 0 (hb hbytes d34) (by decide) ?_
      exact Steps.refl _)
    exact ⟨s₁, some (.int 0), _, _, _, X0, rfl, rfl, rfl, (fun h => by cases h), ⟨0, rfl, hh0, Or.inr ⟨rfl, fun q => hs q.1⟩⟩, fun fs hl => c3.trans (X0.ireturnOut hexec hret rfl (Or.inr (Or.inl rfl)) (hb hbytes d35) hl)⟩
end LEq
theorem Cod.ty {cd : Int32} {n : Nat} {f : Nat → Int32} {V : Cell} (h : Cod cd n f V) : Typed .byte V := fun i v hv => by
  have hi : i < V.slots.size := (Array.getElem?_eq_some_iff.mp hv).1
  rcases h with ⟨-, k1, k2⟩ | ⟨-, k1, k2, -⟩
  · rw [(k2 i (by omega)).1] at hv; cases hv; exact fits_lo8 _
  · rcases Nat.mod_two_eq_zero_or_one i with e | e
    · obtain ⟨j, rfl⟩ : ∃ j, i = 2 * j := ⟨i / 2, by omega⟩
      rw [(k2 j (by omega)).1] at hv; cases hv; exact fits_lo8 _
    · obtain ⟨j, rfl⟩ : ∃ j, i = 2 * j + 1 := ⟨i / 2, by omega⟩
      rw [(k2 j (by omega)).2] at hv; cases hv; exact fits_lo8 _
/-- the same text -/
def SameT (n : Nat) (f : Nat → Int32) (k : Nat) (g : Nat → Int32) : Prop := n = k ∧ ∀ j, j < n → f j = g j
theorem lo8_inj {x y : Int32} (h0 : ¬ x < 0) (h1 : ¬ 255 < x) (k0 : ¬ y < 0) (k1 : ¬ 255 < y) (h : lo8 x = lo8 y) : x = y := by
  rw [← lo8_mask h0 h1, ← lo8_mask k0 k1, h]
/-- arrays coded by one coder are equal just where the texts are -/
theorem Cod.eqv {cd : Int32} {n k : Nat} {f g : Nat → Int32} {V V' : Cell} (h : Cod cd n f V) (h' : Cod cd k g V') (hf : ∀ j, j < n → ¬ f j < 0 ∧ ¬ 65535 < f j) (hg : ∀ j, j < k → ¬ g j < 0 ∧ ¬ 65535 < g j) : EqC V V' ↔ SameT n f k g := by
  have yvv : ∀ {W : Cell} {i : Nat} {x : Int32}, W.slots[i]? = some (.int x) → yv W i = x := fun q => by unfold yv; rw [q]
  rcases h with ⟨rfl, k1, k2⟩ | ⟨rfl, k1, k2, -⟩
  · rcases h' with ⟨-, m1, m2⟩ | ⟨e, -⟩
    · constructor
      · rintro ⟨e1, e2⟩
        refine ⟨by omega, fun j hj => ?_⟩
        have q := e2 j (by omega)
        rw [yvv (k2 j hj).1, yvv (m2 j (by omega)).1] at q
        exact lo8_inj (hf j hj).1 (k2 j hj).2 (hg j (by omega)).1 (m2 j (by omega)).2 q
      · rintro ⟨rfl, e2⟩
        refine ⟨by omega, fun j hj => ?_⟩
        rw [yvv (k2 j (by omega)).1, yvv (m2 j (by omega)).1, e2 j (by omega)]
    · exact absurd e (by decide)
  · rcases h' with ⟨e, -⟩ | ⟨-, m1, m2, -⟩
    · exact absurd e (by decide)
    · constructor
      · rintro ⟨e1, e2⟩
        refine ⟨by omega, fun j hj => ?_⟩
        have q1 := e2 (2 * j) (by omega)
        have q2 := e2 (2 * j + 1) (by omega)
        rw [yvv (k2 j hj).1, yvv (m2 j (by omega)).1] at q1
        rw [yvv (k2 j hj).2, yvv (m2 j (by omega)).2] at q2
        rw [← pair_says (hf j hj).1 (hf j hj).2, ← pair_says (hg j (by omega)).1 (hg j (by omega)).2, q1, q2]
      · rintro ⟨rfl, e2⟩
        refine ⟨by omega, fun i hi => ?_⟩
        rcases Nat.mod_two_eq_zero_or_one i with e | e
        · obtain ⟨j, rfl⟩ : ∃ j, i = 2 * j := ⟨i / 2, by omega⟩
          rw [yvv (k2 j (by omega)).1, yvv (m2 j (by omega)).1, e2 j (by omega)]
        · obtain ⟨j, rfl⟩ : ∃ j, i = 2 * j + 1 := ⟨i / 2, by omega⟩
          rw [yvv (k2 j (by omega)).2, yvv (m2 j (by omega)).2, e2 j (by omega)]
/-- two codings differ: so do the texts -/
theorem Cod.dif {cd cd' : Int32} {n k : Nat} {f g : Nat → Int32} {V V' : Cell} (h : Cod cd n f V) (h' : Cod cd' k g V') (hne : ¬ cd = cd') : ¬ SameT n f k g := by
  rintro ⟨rfl, e⟩
  rcases h with ⟨rfl, -, k2⟩ | ⟨rfl, -, -, j, hj, hw⟩
  · rcases h' with ⟨rfl, -⟩ | ⟨-, -, -, j, hj, hw⟩
    · exact hne rfl
    · exact (k2 j hj).2 (by rw [e j hj]; exact hw)
  · rcases h' with ⟨-, -, m2⟩ | ⟨rfl, -⟩
    · exact (m2 j hj).2 (by rw [← e j hj]; exact hw)
    · exact hne rfl
/-- an object of exactly C is an instance of C -/
theorem cinst {p : Program} {l : Launch} {e : Env} {R : Room} {s : State} {m : MethodId} {args : Array Value} {below : List Frame} {meth : Method} {c : Code} {T : State} {locs : List Loc} {cells slots : Nat} (X : Stand p l e R s m args below meth c T locs cells slots) (hexec : p.tables.exec = Jvm.exec) {own C : String} {index : Nat} (hown : s.vm.findClass own = some m.cls) (hlink : (Cond.classLink own index C).before args s = true) {a : Addr} (hE : Exact C a T)
    {g : JFrame} (hg : g.method = m) {rest : List Value} (hstack : g.stack = .ref a :: rest) (hdg : decode c.code g.pc = .ok (.instanceof index, 3)) :
    ∃ T', Stand p l e R s m args below meth c T' locs cells slots ∧ T'.heap = T.heap ∧ ∀ target, Steps p.tables e below (T'.setTop { g with pc := g.pc + 3, stack := .int 1 :: rest }) target → Steps p.tables e below (T.setTop g) target := by
  obtain ⟨cB, h1, D, h2, h3, h4⟩ := hE
  have h1' : s.vm.findClass C = some cB := by rw [← X.warmed.alike.findClass]; exact h1
  obtain ⟨vm', X', st⟩ := X.instanceofYes hexec hown hlink h2 h4 h1' (by rw [h3]; exact Jvm.Free.SB.assignable_self _ _) hg hstack hdg
  exact ⟨_, X', rfl, st⟩
theorem cself {p : Program} {l : Launch} {e : Env} {R : Room} {s : State} {m : MethodId} {args : Array Value} {below : List Frame} {meth : Method} {c : Code} {T : State} {locs : List Loc} {cells slots : Nat} (X : Stand p l e R s m args below meth c T locs cells slots) (hexec : p.tables.exec = Jvm.exec) {own C : String} {index : Nat} (hown : s.vm.findClass own = some m.cls) (hlink : (Cond.classLink own index C).before args s = true) {a : Addr} (hE : Exact C a T)
    {g : JFrame} (hg : g.method = m) {rest : List Value} (hstack : g.stack = .ref a :: rest) (hdg : decode c.code g.pc = .ok (.checkcast index, 3)) :
    ∃ T', Stand p l e R s m args below meth c T' locs cells slots ∧ T'.heap = T.heap ∧ ∀ target, Steps p.tables e below (T'.setTop { g with pc := g.pc + 3, stack := .ref a :: rest }) target → Steps p.tables e below (T.setTop g) target := by
  obtain ⟨cB, h1, D, h2, h3, h4⟩ := hE
  have h1' : s.vm.findClass C = some cB := by rw [← X.warmed.alike.findClass]; exact h1
  obtain ⟨vm', X', st⟩ := X.checkcastYes hexec hown hlink h2 h4 h1' (by rw [h3]; exact Jvm.Free.SB.assignable_self _ _) hg hstack hdg
  exact ⟨_, X', rfl, fun t h => st t (by rw [← hstack] at h; exact h)⟩
namespace SEq
def yN : MethodName := ⟨"java/lang/String", "equals", "(Ljava/lang/Object;)Z"⟩
abbrev yB : ByteArray := jdk_42_method_66_code
theorem d0 : decode yB 0 = .ok (.aload_n 0, 1) := by decide +kernel
theorem d1 : decode yB 1 = .ok (.aload_n 1, 1) := by decide +kernel
theorem d2 : decode yB 2 = .ok (.if_acmp (.ne) 5, 3) := by decide +kernel
theorem d5 : decode yB 5 = .ok (.iconst 1, 1) := by decide +kernel
theorem d6 : decode yB 6 = .ok (.ireturn, 1) := by decide +kernel
theorem d7 : decode yB 7 = .ok (.aload_n 1, 1) := by decide +kernel
theorem d8 : decode yB 8 = .ok (.instanceof 10, 3) := by decide +kernel
theorem d11 : decode yB 11 = .ok (.ifCond (.eq) 43, 3) := by decide +kernel
theorem d14 : decode yB 14 = .ok (.aload_n 1, 1) := by decide +kernel
theorem d15 : decode yB 15 = .ok (.checkcast 10, 3) := by decide +kernel
theorem d18 : decode yB 18 = .ok (.astore_n 2, 1) := by decide +kernel
theorem d19 : decode yB 19 = .ok (.getstatic 38, 3) := by decide +kernel
theorem d22 : decode yB 22 = .ok (.ifCond (.eq) 14, 3) := by decide +kernel
theorem d25 : decode yB 25 = .ok (.aload_n 0, 1) := by decide +kernel
theorem d26 : decode yB 26 = .ok (.getfield 15, 3) := by decide +kernel
theorem d29 : decode yB 29 = .ok (.aload_n 2, 1) := by decide +kernel
theorem d30 : decode yB 30 = .ok (.getfield 15, 3) := by decide +kernel
theorem d33 : decode yB 33 = .ok (.if_icmp (.ne) 21, 3) := by decide +kernel
theorem d36 : decode yB 36 = .ok (.aload_n 0, 1) := by decide +kernel
theorem d37 : decode yB 37 = .ok (.getfield 9, 3) := by decide +kernel
theorem d40 : decode yB 40 = .ok (.aload_n 2, 1) := by decide +kernel
theorem d41 : decode yB 41 = .ok (.getfield 9, 3) := by decide +kernel
theorem d44 : decode yB 44 = .ok (.invokestatic 541, 3) := by decide +kernel
theorem d47 : decode yB 47 = .ok (.ifCond (.eq) 7, 3) := by decide +kernel
theorem d50 : decode yB 50 = .ok (.iconst 1, 1) := by decide +kernel
theorem d51 : decode yB 51 = .ok (.goto 4, 3) := by decide +kernel
theorem d54 : decode yB 54 = .ok (.iconst 0, 1) := by decide +kernel
theorem d55 : decode yB 55 = .ok (.ireturn, 1) := by decide +kernel
def site : List Cond := [.classLink "java/lang/String" 10 "java/lang/String", .fieldLink "java/lang/String" 38 "java/lang/String" "COMPACT_STRINGS" "Z", .fieldLink "java/lang/String" 15 "java/lang/String" "coder" "B", .fieldLink "java/lang/String" 9 "java/lang/String" "value" "[B", LEq.tab] ++ staticW "java/lang/String" 541 LEq.yN
def tab : Cond := tabOf yN yB 3 (some .boolean) site
def P (x t : Addr) (V : Cell) (cd : Int32) (n : Nat) (f : Nat → Int32) (y t' : Addr) (V' : Cell) (cd' : Int32) (k : Nat) (g : Nat → Int32) (z : Int32) (args : Array Value) (s : State) : Prop := args = #[.ref x, .ref y] ∧ Txt x t V cd n f s ∧ Txt y t' V' cd' k g s ∧ StaticIs s "java/lang/String" "COMPACT_STRINGS" "Z" (.int z) ∧ ¬ z = 0
/-- equals(Object) of two Strings: whether the texts are the same -/
theorem law (l : Launch) (x t : Addr) (V : Cell) (cd : Int32) (n : Nat) (f : Nat → Int32) (y t' : Addr) (V' : Cell) (cd' : Int32) (k : Nat) (g : Nat → Int32) (z : Int32) : Law l yN 2 1 1 14 yB 3 (some .boolean) site (P x t V cd n f y t' V' cd' k g z) (Says01 (SameT n f k g)) [] 0 0 := by
  refine Law.of_walk (plainFor_of_name (by decide +kernel)) (by decide +kernel) (by decide +kernel) (by decide) (fun _ _ h => by rw [h.1]; rfl) (fun _ U U' hal hh h => ⟨h.1, h.2.1.mv hal hh, h.2.2.1.mv hal hh, h.2.2.2.1.there hal hh, h.2.2.2.2⟩) (fun r U U' V V' h1 hal h2 h => Says01.mv r U U' V V' h1 hal h2 h) ?_
  intro p e s m args below meth c s₁ X0 hexec hbytes hml hret hlk hnm hown hh0 W hP
  obtain ⟨rfl, hx, hy, s1, hz⟩ := hP
  have c1 : Steps p.tables e below (s₁.setTop (entryFrame m #[.ref x, .ref y] 3)) (s₁.setTop (mkF m 2 #[.val (.ref x), .val (.ref y), .unset] [.ref y, .ref x])) := Steps.trans (entry rfl) (by
    show Steps p.tables e below (s₁.setTop (mkF m 0 #[.val (.ref x), .val (.ref y), .unset] [])) _
    refine XS.aloadN X0.here hexec rfl (hb hbytes d0) rfl rfl ?_
    refine XS.aloadN X0.here hexec rfl (hb hbytes d1) rfl rfl ?_
    exact Steps.refl _)
  by_cases hxy : x = y
  · have c2 : Steps p.tables e below (s₁.setTop (entryFrame m #[.ref x, .ref y] 3)) (s₁.setTop (mkF m 6 #[.val (.ref x), .val (.ref y), .unset] [.int 1])) := c1.trans (by
      refine acmpNo X0.here hexec rfl (hb hbytes d2) rfl rfl rfl (by simp [acmp, hxy]) ?_
      refine iconstV X0.here hexec rfl 1 (hb hbytes d5) (by decide) ?_
      exact Steps.refl _)
    subst hxy
    have ec : cd = cd' := by
      obtain ⟨D, fd, a1, a2, a3⟩ := hx.2.2.1
      obtain ⟨D', fd', b1, b2, b3⟩ := hy.2.2.1
      cases a1.symm.trans b1
      obtain ⟨q1, q2, q3, q4⟩ := a2.1
      obtain ⟨r1, r2, r3, r4⟩ := b2.1
      cases q4.symm.trans r4
      cases a3.symm.trans b3; rfl
    have et : t = t' := by
      obtain ⟨D, fd, a1, a2, a3⟩ := hx.2.1
      obtain ⟨D', fd', b1, b2, b3⟩ := hy.2.1
      cases a1.symm.trans b1
      obtain ⟨q1, q2, q3, q4⟩ := a2.1
      obtain ⟨r1, r2, r3, r4⟩ := b2.1
      cases q4.symm.trans r4
      cases a3.symm.trans b3; rfl
    subst ec et
    have ev : V = V' := by cases hx.2.2.2.1.1.symm.trans hy.2.2.2.1.1; rfl
    subst ev
    have hs : SameT n f k g := (Cod.eqv hx.2.2.2.2.1 hy.2.2.2.2.1 hx.2.2.2.2.2 hy.2.2.2.2.2).mp ⟨rfl, fun _ _ => rfl⟩
    exact ⟨s₁, some (.int 1), _, _, _, X0, rfl, rfl, rfl, (fun h => by cases h), ⟨1, rfl, hh0, Or.inl ⟨rfl, hs⟩⟩, fun fs hl => c2.trans (X0.ireturnOut hexec hret rfl (Or.inr (Or.inl rfl)) (hb hbytes d6) hl)⟩
  · have c2 : Steps p.tables e below (s₁.setTop (entryFrame m #[.ref x, .ref y] 3)) (s₁.setTop (mkF m 8 #[.val (.ref x), .val (.ref y), .unset] [.ref y])) := c1.trans (by
      refine acmpYes X0.here hexec rfl (pc0 := 2) rfl (hb hbytes d2) rfl rfl rfl (by simp [acmp, hxy]) (by decide) rfl ?_
      refine XS.aloadN X0.here hexec rfl (hb hbytes d7) rfl rfl ?_
      exact Steps.refl _)
    obtain ⟨T3, X3, q3, st3⟩ := cinst X0 hexec hown (wk W (.classLink "java/lang/String" 10 "java/lang/String")) (hy.mv X0.warmed.alike hh0).1 (g := (mkF m 8 #[.val (.ref x), .val (.ref y), .unset] [.ref y])) rfl (rest := []) rfl (hb hbytes d8)
    have hh3 := q3.trans hh0
    have c4 : Steps p.tables e below (s₁.setTop (entryFrame m #[.ref x, .ref y] 3)) (T3.setTop (mkF m 15 #[.val (.ref x), .val (.ref y), .unset] [.ref y])) := (c2.trans (st3 _ (Steps.refl _))).trans (by
      refine XS.ifNo X3.here hexec rfl (hb hbytes d11) rfl (i0_eq_f (by decide)) ?_
      refine XS.aloadN X3.here hexec rfl (hb hbytes d14) rfl rfl ?_
      exact Steps.refl _)
    obtain ⟨T5, X5, q5, st5⟩ := cself X3 hexec hown (wk W (.classLink "java/lang/String" 10 "java/lang/String")) (hy.mv X3.warmed.alike hh3).1 (g := (mkF m 15 #[.val (.ref x), .val (.ref y), .unset] [.ref y])) rfl (rest := []) rfl (hb hbytes d15)
    have hh5 := q5.trans hh3
    have c6 : Steps p.tables e below (s₁.setTop (entryFrame m #[.ref x, .ref y] 3)) (T5.setTop (mkF m 19 #[.val (.ref x), .val (.ref y), .val (.ref y)] [])) := (c4.trans (st5 _ (Steps.refl _))).trans (by
      refine XS.astoreN X5.here hexec rfl (hb hbytes d18) rfl rfl rfl ?_
      exact Steps.refl _)
    obtain ⟨T7, X7, q7, st7⟩ := X5.sget hexec hown (wk W (.fieldLink "java/lang/String" 38 "java/lang/String" "COMPACT_STRINGS" "Z")) s1 (fun _ _ h => by rw [hh5]; exact h) (g := (mkF m 19 #[.val (.ref x), .val (.ref y), .val (.ref y)] [])) rfl (hb hbytes d19)
    have hh7 := q7.trans hh5
    have c8 : Steps p.tables e below (s₁.setTop (entryFrame m #[.ref x, .ref y] 3)) (T7.setTop (mkF m 26 #[.val (.ref x), .val (.ref y), .val (.ref y)] [.ref x])) := (c6.trans (st7 _ (Steps.refl _))).trans (by
      refine XS.ifNo X7.here hexec rfl (hb hbytes d22) rfl (i0_eq_f hz) ?_
      refine XS.aloadN X7.here hexec rfl (hb hbytes d25) rfl rfl ?_
      exact Steps.refl _)
    obtain ⟨T9, X9, q9, st9⟩ := X7.hget hexec hown (wk W (.fieldLink "java/lang/String" 15 "java/lang/String" "coder" "B")) (hx.mv X7.warmed.alike hh7).2.2.1 (g := (mkF m 26 #[.val (.ref x), .val (.ref y), .val (.ref y)] [.ref x])) rfl (rest := []) rfl (hb hbytes d26)
    have hh9 := q9.trans hh7
    have c10 : Steps p.tables e below (s₁.setTop (entryFrame m #[.ref x, .ref y] 3)) (T9.setTop (mkF m 30 #[.val (.ref x), .val (.ref y), .val (.ref y)] [.ref y, .int cd])) := (c8.trans (st9 _ (Steps.refl _))).trans (by
      refine XS.aloadN X9.here hexec rfl (hb hbytes d29) rfl rfl ?_
      exact Steps.refl _)
    obtain ⟨T11, X11, q11, st11⟩ := X9.hget hexec hown (wk W (.fieldLink "java/lang/String" 15 "java/lang/String" "coder" "B")) (hy.mv X9.warmed.alike hh9).2.2.1 (g := (mkF m 30 #[.val (.ref x), .val (.ref y), .val (.ref y)] [.ref y, .int cd])) rfl (rest := [.int cd]) rfl (hb hbytes d30)
    have hh11 := q11.trans hh9
    have c12 : Steps p.tables e below (s₁.setTop (entryFrame m #[.ref x, .ref y] 3)) (T11.setTop (mkF m 33 #[.val (.ref x), .val (.ref y), .val (.ref y)] [.int cd', .int cd])) := c10.trans (st11 _ (Steps.refl _))
    by_cases hcd : cd = cd'
    · subst hcd
      have c13 : Steps p.tables e below (s₁.setTop (entryFrame m #[.ref x, .ref y] 3)) (T11.setTop (mkF m 37 #[.val (.ref x), .val (.ref y), .val (.ref y)] [.ref x])) := c12.trans (by
        refine XS.icmpNo X11.here hexec rfl (hb hbytes d33) rfl (ii_ne_f rfl) ?_
        refine XS.aloadN X11.here hexec rfl (hb hbytes d36) rfl rfl ?_
        exact Steps.refl _)
      obtain ⟨T14, X14, q14, st14⟩ := X11.hget hexec hown (wk W (.fieldLink "java/lang/String" 9 "java/lang/String" "value" "[B")) (hx.mv X11.warmed.alike hh11).2.1 (g := (mkF m 37 #[.val (.ref x), .val (.ref y), .val (.ref y)] [.ref x])) rfl (rest := []) rfl (hb hbytes d37)
      have hh14 := q14.trans hh11
      have c15 : Steps p.tables e below (s₁.setTop (entryFrame m #[.ref x, .ref y] 3)) (T14.setTop (mkF m 41 #[.val (.ref x), .val (.ref y), .val (.ref y)] [.ref y, .ref t])) := (c13.trans (st14 _ (Steps.refl _))).trans (by
        refine XS.aloadN X14.here hexec rfl (hb hbytes d40) rfl rfl ?_
        exact Steps.refl _)
      obtain ⟨T16, X16, q16, st16⟩ := X14.hget hexec hown (wk W (.fieldLink "java/lang/String" 9 "java/lang/String" "value" "[B")) (hy.mv X14.warmed.alike hh14).2.1 (g := (mkF m 41 #[.val (.ref x), .val (.ref y), .val (.ref y)] [.ref y, .ref t])) rfl (rest := [.ref t]) rfl (hb hbytes d41)
      have hh16 := q16.trans hh14
      have c17 : Steps p.tables e below (s₁.setTop (entryFrame m #[.ref x, .ref y] 3)) (T16.setTop (mkF m 44 #[.val (.ref x), .val (.ref y), .val (.ref y)] [.ref t', .ref t])) := c15.trans (st16 _ (Steps.refl _))
      obtain ⟨v18, T18, X18, E18, g18⟩ := X16.callS hexec (LEq.law l t V t' V') hown (wks W (staticW "java/lang/String" 541 LEq.yN)) (wk W LEq.tab) (W := 0) (Nat.le_of_ble_eq_true rfl) (Nat.le_of_ble_eq_true rfl) (Nat.le_refl _) (Nat.le_refl _) (g := (mkF m 44 #[.val (.ref x), .val (.ref y), .val (.ref y)] [.ref t', .ref t])) rfl (by rw [hml]; rfl) c17 (argsL := [.ref t, .ref t']) (rest := []) rfl rfl (by show 2 * 0 + 0 ≤ _; decide) (hb hbytes d44) (⟨rfl, hx.2.2.2.1.mv X16.warmed.alike hh16, hx.2.2.2.2.1.ty, hy.2.2.2.1.mv X16.warmed.alike hh16, hy.2.2.2.2.1.ty⟩)
      obtain ⟨v, rfl, q18, hv⟩ := E18
      have iff := Cod.eqv hx.2.2.2.2.1 hy.2.2.2.2.1 hx.2.2.2.2.2 hy.2.2.2.2.2
      rcases hv with ⟨rfl, he⟩ | ⟨rfl, he⟩
      · have c19 : Steps p.tables e below (s₁.setTop (entryFrame m #[.ref x, .ref y] 3)) (T18.setTop (mkF m 55 #[.val (.ref x), .val (.ref y), .val (.ref y)] [.int 1])) := Steps.trans g18 (by
          refine XS.ifNo X18.here hexec rfl (hb hbytes d47) rfl (i0_eq_f (by decide)) ?_
          refine iconstV X18.here hexec rfl 1 (hb hbytes d50) (by decide) ?_
          refine XS.goto X18.here hexec rfl (pc0 := 51) rfl (hb hbytes d51) (by decide) rfl ?_
          exact Steps.refl _)
        exact ⟨T18, some (.int 1), _, _, _, X18, rfl, rfl, rfl, (fun h => by cases h), ⟨1, rfl, q18.trans hh16, Or.inl ⟨rfl, iff.mp he⟩⟩, fun fs hl => c19.trans (X18.ireturnOut hexec hret rfl (Or.inr (Or.inl rfl)) (hb hbytes d55) hl)⟩
      · have c19 : Steps p.tables e below (s₁.setTop (entryFrame m #[.ref x, .ref y] 3)) (T18.setTop (mkF m 55 #[.val (.ref x), .val (.ref y), .val (.ref y)] [.int 0])) := Steps.trans g18 (by
          refine XS.ifYes X18.here hexec rfl (pc0 := 47) rfl (hb hbytes d47) rfl (i0_eq_t rfl) (by decide) rfl ?_
          refine iconstV X18.here hexec rfl 0 (hb hbytes d54) (by decide) ?_
          exact Steps.refl _)
        exact ⟨T18, some (.int 0), _, _, _, X18, rfl, rfl, rfl, (fun h => by cases h), ⟨0, rfl, q18.trans hh16, Or.inr ⟨rfl, fun q => he (iff.mpr q)⟩⟩, fun fs hl => c19.trans (X18.ireturnOut hexec hret rfl (Or.inr (Or.inl rfl)) (hb hbytes d55) hl)⟩
    · have c13 : Steps p.tables e below (s₁.setTop (entryFrame m #[.ref x, .ref y] 3)) (T11.setTop (mkF m 55 #[.val (.ref x), .val (.ref y), .val (.ref y)] [.int 0])) := c12.trans (by
        refine XS.icmpYes X11.here hexec rfl (pc0 := 33) rfl (hb hbytes d33) rfl (ii_ne_t hcd) (by decide) rfl ?_
        refine iconstV X11.here hexec rfl 0 (hb hbytes d54) (by decide) ?_
        exact Steps.refl _)
      exact ⟨T11, some (.int 0), _, _, _, X11, rfl, rfl, rfl, (fun h => by cases h), ⟨0, rfl, hh11, Or.inr ⟨rfl, Cod.dif hx.2.2.2.2.1 hy.2.2.2.2.1 hcd⟩⟩, fun fs hl => c13.trans (X11.ireturnOut hexec hret rfl (Or.inr (Or.inl rfl)) (hb hbytes d55) hl)⟩
theorem pays {l : Launch} {R : Room} {p : Program} {e : Env} {below : List Frame} {s : State} {sargs : Array Value} {len W : Nat} (x t : Addr) (V : Cell) (cd : Int32) (n : Nat) (f : Nat → Int32) (y t' : Addr) (V' : Cell) (cd' : Int32) (k : Nat) (g : Nat → Int32) (z : Int32) (htab : tab.before sargs s = true) (hfr : 2 ≤ R.frames) (hlo : W + 28 ≤ R.locals) :
    Back l R p e below s sargs yN len W (fun A₁ a₁ => A₁.cells + 0 ≤ R.cells ∧ A₁.slots + 0 ≤ R.slots ∧ P x t V cd n f y t' V' cd' k g z a₁ A₁.U) (fun A₁ _ v₁ B₁ => Says01 (SameT n f k g) v₁ A₁.U B₁.U ∧ B₁.locs = A₁.locs ++ [] ∧ B₁.cells = A₁.cells + 0 ∧ B₁.slots = A₁.slots + 0) :=
  (law l x t V cd n f y t' V' cd' k g z).pays htab hfr (by omega)
end SEq
end StrChars
namespace StrChars.Road
open Jvm Sem ClassFile Op Lib Jvm.Stand Jvm.Free Jvm.Free.XT
open Jvm.Lib.Cold (StaticIs)
/-- the words of String.equals(Object) -/
abbrev wordsEq : List Jvm.Cond := [.code SEq.yN SEq.yB 3 (some .boolean), .initialized ST, .classLink ST 10 ST, .fieldLink ST 38 ST "COMPACT_STRINGS" "Z", .fieldLink ST 15 ST "coder" "B", .fieldLink ST 9 ST "value" "[B", .methodLink ST 541 LEq.yN, .static LEq.yN, .code LEq.yN LEq.yB 3 (some .boolean), .initialized "java/lang/StringLatin1"]
theorem tabEq_of {a : Array Value} {s : State} (h : ∀ w ∈ wordsEq, w.before a s = true) : SEq.tab.before a s = true := by
  have hl : LEq.tab.before a s = true := unparts (wk h (.code LEq.yN LEq.yB 3 (some .boolean))) (wks h (.initialized LEq.yN.cls :: LEq.site))
  have q := consq hl h
  exact unparts (wk q (.code SEq.yN SEq.yB 3 (some .boolean))) (wks q (.initialized SEq.yN.cls :: SEq.site))
theorem movedEq {Z s : State} {a0 args : Array Value} (hZ : Z.Warmed39 s.vm) (hw : ∀ d ∈ wordsEq, d.before a0 Z = true) : ∀ d ∈ wordsEq, d.before args s = true := fun d hd => by
  have t : ∀ d ∈ wordsEq, (d.onTables && d.keepsFace) = true := by decide +kernel
  exact RoadKit.mv hZ (hw d hd) (t d hd)
/-- the road's facts of a String, as the laws ask it -/
theorem txt_of {Z U : State} {a0 : Array Value} {kI : Nat} (wi : (Jvm.Cond.instantiable ST kI).before a0 Z = true) (al : Z.vm.Alike U.vm) {x t : Addr} {kb : ClassId} {cs : List Int32} {cd N2 : Int32} {vs : List Value} (E : RoadKit.Exa Z U.heap x ST) (V : RoadKit.Fld Z U.heap x ST "value" "[B" (.ref t)) (C : RoadKit.Fld Z U.heap x ST "coder" "B" (.int cd)) (K : RoadKit.Arv Z U.heap t kb .byte N2 vs (.int 0)) (hc : CodA cs cd N2 vs) (hb : ∀ c ∈ cs, ¬ c < 0 ∧ ¬ (65535 : Int32) < c) (l2 : cs.length ≤ 4000) :
    ∃ A, Txt x t A cd cs.length (fun j => cs.getD j 0) U := by
  obtain ⟨A, K1, K2, K3, K4, K5, K6⟩ := K
  have hcod := hc.cod (by omega) K3 K5
  obtain ⟨D, fV, fC, hB, F1, F2, g1, g2, -, -⟩ := strObj wi al E V C
  exact ⟨A, ⟨_, hB.2.2.1, D, hB.1, rfl, by cases q : D.vm <;> first | rfl | exact absurd q (hB.2.1.2 _)⟩, Has.of hB F1 g1, Has.of hB F2 g2, ⟨K1.1, State.isArrayOf_alike al K1.2.1, K1.2.2, by rcases hcod with ⟨-, q, -⟩ | ⟨-, q, -⟩ <;> omega⟩, hcod, fun j hj => by
    have e : cs.getD j 0 = cs[j] := by simp [List.getD_eq_getElem?_getD, hj]
    show ¬ cs.getD j 0 < 0 ∧ ¬ 65535 < cs.getD j 0
    rw [e]; exact hb _ (List.getElem_mem _)⟩
theorem same_list (cs ds : List Int32) : SameT cs.length (fun j => cs.getD j 0) ds.length (fun j => ds.getD j 0) ↔ cs = ds := by
  constructor
  · rintro ⟨e, q⟩
    refine List.ext_getElem e fun j h1 h2 => ?_
    have := q j h1
    simpa [List.getD_eq_getElem?_getD, h1, h2] using this
  · rintro rfl
    exact ⟨rfl, fun _ _ => rfl⟩
/-- **equals(Object) OF TWO SUCH STRINGS**: 1 just where the chars are the same -/
theorem eqW {p : Program} {l : Launch} {e : Env} {R : Room} {s : State} {args : Array Value} {below : List Frame} {len W : Nat} {Z : State} {a0 : Array Value} {h : Heap} (hZ : Z.Warmed39 s.vm) (hw : ∀ d ∈ wordsEq, d.before a0 Z = true) {kI : Nat} (wi : (Jvm.Cond.instantiable ST kI).before a0 Z = true)
    {x t : Addr} {kb : ClassId} {cs : List Int32} {cd N2 : Int32} {vs : List Value} (E : RoadKit.Exa Z h x ST) (V : RoadKit.Fld Z h x ST "value" "[B" (.ref t)) (C : RoadKit.Fld Z h x ST "coder" "B" (.int cd)) (K : RoadKit.Arv Z h t kb .byte N2 vs (.int 0)) (hc : CodA cs cd N2 vs) (hb : ∀ c ∈ cs, ¬ c < 0 ∧ ¬ (65535 : Int32) < c) (l2 : cs.length ≤ 4000)
    {y t' : Addr} {kb' : ClassId} {ds : List Int32} {cd' N2' : Int32} {vs' : List Value} (E' : RoadKit.Exa Z h y ST) (V' : RoadKit.Fld Z h y ST "value" "[B" (.ref t')) (C' : RoadKit.Fld Z h y ST "coder" "B" (.int cd')) (K' : RoadKit.Arv Z h t' kb' .byte N2' vs' (.int 0)) (hc' : CodA ds cd' N2' vs') (hb' : ∀ c ∈ ds, ¬ c < 0 ∧ ¬ (65535 : Int32) < c) (l2' : ds.length ≤ 4000)
    {z : Int32} (S : RoadKit.Sta Z h ST "COMPACT_STRINGS" "Z" (.int z)) (hz : ¬ z = 0) (hfr : 2 ≤ R.frames) (hlo : W + 28 ≤ R.locals) :
    Back l R p e below s args (⟨"java/lang/String", "equals", "(Ljava/lang/Object;)Z"⟩ : MethodName) len W (fun P a => a = #[.ref x, .ref y] ∧ P.U.heap = h ∧ P.cells + 0 ≤ R.cells ∧ P.slots + 0 ≤ R.slots)
      (fun P _ v B => ∃ L, (((v = some (.int 1) ∧ cs = ds) ∨ (v = some (.int 0) ∧ ¬ cs = ds)) ∧ L = [] ∧ B.U.heap = h) ∧ B.locs = P.locs ++ L ∧ B.cells = P.cells + 0 ∧ B.slots = P.slots + 0) := by
  intro m meth c P g ig mk a X hg hsize hdg hW hn hp'
  obtain ⟨rfl, rfl, r1, r2⟩ := hp'
  have al : Z.vm.Alike P.U.vm := hZ.alike.trans X.warmed.alike
  obtain ⟨A, hx⟩ := txt_of wi al E V C K hc hb l2
  obtain ⟨A', hy⟩ := txt_of wi al E' V' C' K' hc' hb' l2'
  obtain ⟨v, B, X', ⟨⟨w, hv, hh, hq⟩, hl, hk, hs⟩, st⟩ := SEq.pays x t A cd cs.length (fun j => cs.getD j 0) y t' A' cd' ds.length (fun j => ds.getD j 0) z (tabEq_of (movedEq hZ hw)) hfr hlo m meth c P g ig mk _ X hg hsize hdg hW hn ⟨r1, r2, rfl, hx, hy, sta_is al S, hz⟩
  refine ⟨v, B, X', ⟨[], ⟨?_, rfl, hh⟩, hl, hk, hs⟩, st⟩
  rcases hq with ⟨rfl, q⟩ | ⟨rfl, q⟩
  · exact Or.inl ⟨hv, (same_list cs ds).mp q⟩
  · exact Or.inr ⟨hv, fun e => q ((same_list cs ds).mpr e)⟩
end StrChars.Road
namespace StrChars.Road
open Jvm Sem ClassFile Op Lib Jvm.Stand Jvm.Free Jvm.Free.XT
open Jvm.Lib.Cold (StaticIs)
/-- what backV says of its String, as the contracts of this text ask it: cs's low bytes, coder 0 -/
theorem codOf {cs : List Int32} {n : Nat} (hn : cs.length = n) (hb : ∀ c ∈ cs, ¬ 255 < c) : CodA cs 0 (Int32.ofNat n) ((cs.map lo8).map Value.int) := Or.inl ⟨rfl, by rw [hn], by simp [List.map_map, Function.comp_def], hb⟩
end StrChars.Road
end Jvm.Pilot.@@N@@
namespace Jvm.Pilot.@@N@@
open Jvm Jvm.ClassFile Sem Op Lib Jvm.Free Jvm.Stand Jvm.LawKit Jvm.RoadKit Bundle Jvm.Own Jvm.Pilot.@@N@@.Jvm.D
theorem wd_0 {a0 : Array Value} {Z : State} (hw : ∀ d ∈ tables_1, d.before a0 Z = true) : (Jvm.Cond.constant "com/example/stubwright/stubwright/idl/TokenIsKeywordPinLaw" (69 : Nat) (2147483647 : Int32)).before a0 Z = true := hw _ (List.mem_of_getElem? (i := 0) rfl)
theorem wd_1 {a0 : Array Value} {Z : State} (hw : ∀ d ∈ tables_1, d.before a0 Z = true) : (Jvm.Cond.methodLink "com/example/stubwright/stubwright/idl/TokenIsKeywordPinLaw" (70 : Nat) ({ cls := "com/example/stubwright/stubwright/idl/TokenIsKeywordPinLaw", name := "mk", desc := "(ICC)Ljava/lang/String;" } : Jvm.MethodName)).before a0 Z = true := hw _ (List.mem_of_getElem? (i := 1) rfl)
theorem wd_2 {a0 : Array Value} {Z : State} (hw : ∀ d ∈ tables_1, d.before a0 Z = true) : (Jvm.Cond.static ({ cls := "com/example/stubwright/stubwright/idl/TokenIsKeywordPinLaw", name := "mk", desc := "(ICC)Ljava/lang/String;" } : Jvm.MethodName)).before a0 Z = true := hw _ (List.mem_of_getElem? (i := 2) rfl)
theorem wd_3 {a0 : Array Value} {Z : State} (hw : ∀ d ∈ tables_1, d.before a0 Z = true) : (Jvm.Cond.initialized "com/example/stubwright/stubwright/idl/TokenIsKeywordPinLaw").before a0 Z = true := hw _ (List.mem_of_getElem? (i := 3) rfl)
theorem wd_4 {a0 : Array Value} {Z : State} (hw : ∀ d ∈ tables_1, d.before a0 Z = true) : (Jvm.Cond.code ({ cls := "com/example/stubwright/stubwright/idl/TokenIsKeywordPinLaw", name := "mk", desc := "(ICC)Ljava/lang/String;" } : Jvm.MethodName) method_3_code (3 : Nat) (Option.some (Jvm.ClassFile.FieldType.object "java/lang/String"))).before a0 Z = true := hw _ (List.mem_of_getElem? (i := 4) rfl)
theorem wd_5 {a0 : Array Value} {Z : State} (hw : ∀ d ∈ tables_1, d.before a0 Z = true) : (Jvm.Cond.classLink "com/example/stubwright/stubwright/idl/TokenIsKeywordPinLaw" (64 : Nat) "java/lang/String").before a0 Z = true := hw _ (List.mem_of_getElem? (i := 5) rfl)
theorem wd_6 {a0 : Array Value} {Z : State} (hw : ∀ d ∈ tables_1, d.before a0 Z = true) : (Jvm.Cond.instantiable "java/lang/String" (4 : Nat)).before a0 Z = true := hw _ (List.mem_of_getElem? (i := 6) rfl)
theorem wd_7 {a0 : Array Value} {Z : State} (hw : ∀ d ∈ tables_1, d.before a0 Z = true) : (Jvm.Cond.initialized "java/lang/String").before a0 Z = true := hw _ (List.mem_of_getElem? (i := 7) rfl)
theorem wd_8 {a0 : Array Value} {Z : State} (hw : ∀ d ∈ tables_1, d.before a0 Z = true) : (Jvm.Cond.arrayClass Jvm.ClassFile.FieldType.char).before a0 Z = true := hw _ (List.mem_of_getElem? (i := 8) rfl)
theorem wd_9 {a0 : Array Value} {Z : State} (hw : ∀ d ∈ tables_1, d.before a0 Z = true) : (Jvm.Cond.methodLink "com/example/stubwright/stubwright/idl/TokenIsKeywordPinLaw" (66 : Nat) ({ cls := "java/lang/String", name := "<init>", desc := "([C)V" } : Jvm.MethodName)).before a0 Z = true := hw _ (List.mem_of_getElem? (i := 9) rfl)
theorem wd_10 {a0 : Array Value} {Z : State} (hw : ∀ d ∈ tables_1, d.before a0 Z = true) : (Jvm.Cond.instanceMethod ({ cls := "java/lang/String", name := "<init>", desc := "([C)V" } : Jvm.MethodName)).before a0 Z = true := hw _ (List.mem_of_getElem? (i := 10) rfl)
theorem wd_11 {a0 : Array Value} {Z : State} (hw : ∀ d ∈ tables_1, d.before a0 Z = true) : (Jvm.Cond.code ({ cls := "java/lang/String", name := "<init>", desc := "([C)V" } : Jvm.MethodName) jdk_42_method_3_code (2 : Nat) (Option.none : Option Jvm.ClassFile.FieldType)).before a0 Z = true := hw _ (List.mem_of_getElem? (i := 11) rfl)
theorem wd_12 {a0 : Array Value} {Z : State} (hw : ∀ d ∈ tables_1, d.before a0 Z = true) : (Jvm.Cond.methodLink "java/lang/String" (27 : Nat) ({ cls := "java/lang/String", name := "<init>", desc := "([CIILjava/lang/Void;)V" } : Jvm.MethodName)).before a0 Z = true := hw _ (List.mem_of_getElem? (i := 12) rfl)
theorem wd_13 {a0 : Array Value} {Z : State} (hw : ∀ d ∈ tables_1, d.before a0 Z = true) : (Jvm.Cond.instanceMethod ({ cls := "java/lang/String", name := "<init>", desc := "([CIILjava/lang/Void;)V" } : Jvm.MethodName)).before a0 Z = true := hw _ (List.mem_of_getElem? (i := 13) rfl)
theorem wd_15 {a0 : Array Value} {Z : State} (hw : ∀ d ∈ tables_1, d.before a0 Z = true) : (Jvm.Cond.code ({ cls := "java/lang/String", name := "<init>", desc := "([CIILjava/lang/Void;)V" } : Jvm.MethodName) jdk_42_method_149_code (6 : Nat) (Option.none : Option Jvm.ClassFile.FieldType)).before a0 Z = true := hw _ (List.mem_of_getElem? (i := 15) rfl)
theorem wd_16 {a0 : Array Value} {Z : State} (hw : ∀ d ∈ tables_1, d.before a0 Z = true) : (Jvm.Cond.methodLink "java/lang/String" (1 : Nat) ({ cls := "java/lang/Object", name := "<init>", desc := "()V" } : Jvm.MethodName)).before a0 Z = true := hw _ (List.mem_of_getElem? (i := 16) rfl)
theorem wd_17 {a0 : Array Value} {Z : State} (hw : ∀ d ∈ tables_1, d.before a0 Z = true) : (Jvm.Cond.instanceMethod ({ cls := "java/lang/Object", name := "<init>", desc := "()V" } : Jvm.MethodName)).before a0 Z = true := hw _ (List.mem_of_getElem? (i := 17) rfl)
theorem wd_18 {a0 : Array Value} {Z : State} (hw : ∀ d ∈ tables_1, d.before a0 Z = true) : (Jvm.Cond.code ({ cls := "java/lang/Object", name := "<init>", desc := "()V" } : Jvm.MethodName) object_method_1_code (1 : Nat) (Option.none : Option Jvm.ClassFile.FieldType)).before a0 Z = true := hw _ (List.mem_of_getElem? (i := 18) rfl)
theorem wd_24 {a0 : Array Value} {Z : State} (hw : ∀ d ∈ tables_1, d.before a0 Z = true) : (Jvm.Cond.arrayClass Jvm.ClassFile.FieldType.byte).before a0 Z = true := hw _ (List.mem_of_getElem? (i := 24) rfl)
theorem wd_31 {a0 : Array Value} {Z : State} (hw : ∀ d ∈ tables_1, d.before a0 Z = true) : (Jvm.Cond.fieldLink "java/lang/String" (15 : Nat) "java/lang/String" "coder" "B").before a0 Z = true := hw _ (List.mem_of_getElem? (i := 31) rfl)
theorem wd_32 {a0 : Array Value} {Z : State} (hw : ∀ d ∈ tables_1, d.before a0 Z = true) : (Jvm.Cond.laysFinal "java/lang/String" "java/lang/String" "coder" "B").before a0 Z = true := hw _ (List.mem_of_getElem? (i := 32) rfl)
theorem wd_33 {a0 : Array Value} {Z : State} (hw : ∀ d ∈ tables_1, d.before a0 Z = true) : (Jvm.Cond.fieldLink "java/lang/String" (9 : Nat) "java/lang/String" "value" "[B").before a0 Z = true := hw _ (List.mem_of_getElem? (i := 33) rfl)
theorem wd_34 {a0 : Array Value} {Z : State} (hw : ∀ d ∈ tables_1, d.before a0 Z = true) : (Jvm.Cond.laysFinal "java/lang/String" "java/lang/String" "value" "[B").before a0 Z = true := hw _ (List.mem_of_getElem? (i := 34) rfl)
theorem wd_35 {a0 : Array Value} {Z : State} (hw : ∀ d ∈ tables_1, d.before a0 Z = true) : (Jvm.Cond.stringLink "java/lang/String" (7 : Nat) "").before a0 Z = true := hw _ (List.mem_of_getElem? (i := 35) rfl)
theorem wd_38 {a0 : Array Value} {Z : State} (hw : ∀ d ∈ tables_1, d.before a0 Z = true) : (Jvm.Cond.classLink "com/example/stubwright/stubwright/idl/TokenIsKeywordPinLaw" (76 : Nat) "com/example/stubwright/stubwright/SourcePosition").before a0 Z = true := hw _ (List.mem_of_getElem? (i := 38) rfl)
theorem wd_39 {a0 : Array Value} {Z : State} (hw : ∀ d ∈ tables_1, d.before a0 Z = true) : (Jvm.Cond.instantiable "com/example/stubwright/stubwright/SourcePosition" (3 : Nat)).before a0 Z = true := hw _ (List.mem_of_getElem? (i := 39) rfl)
theorem wd_40 {a0 : Array Value} {Z : State} (hw : ∀ d ∈ tables_1, d.before a0 Z = true) : (Jvm.Cond.initialized "com/example/stubwright/stubwright/SourcePosition").before a0 Z = true := hw _ (List.mem_of_getElem? (i := 40) rfl)
theorem wd_41 {a0 : Array Value} {Z : State} (hw : ∀ d ∈ tables_1, d.before a0 Z = true) : (Jvm.Cond.stringLink "com/example/stubwright/stubwright/idl/TokenIsKeywordPinLaw" (78 : Nat) "f").before a0 Z = true := hw _ (List.mem_of_getElem? (i := 41) rfl)
theorem wd_42 {a0 : Array Value} {Z : State} (hw : ∀ d ∈ tables_1, d.before a0 Z = true) : (Jvm.Cond.methodLink "com/example/stubwright/stubwright/idl/TokenIsKeywordPinLaw" (80 : Nat) ({ cls := "com/example/stubwright/stubwright/SourcePosition", name := "<init>", desc := "(Ljava/lang/String;II)V" } : Jvm.MethodName)).before a0 Z = true := hw _ (List.mem_of_getElem? (i := 42) rfl)
theorem wd_43 {a0 : Array Value} {Z : State} (hw : ∀ d ∈ tables_1, d.before a0 Z = true) : (Jvm.Cond.instanceMethod ({ cls := "com/example/stubwright/stubwright/SourcePosition", name := "<init>", desc := "(Ljava/lang/String;II)V" } : Jvm.MethodName)).before a0 Z = true := hw _ (List.mem_of_getElem? (i := 43) rfl)
theorem wd_44 {a0 : Array Value} {Z : State} (hw : ∀ d ∈ tables_1, d.before a0 Z = true) : (Jvm.Cond.code ({ cls := "com/example/stubwright/stubwright/SourcePosition", name := "<init>", desc := "(Ljava/lang/String;II)V" } : Jvm.MethodName) prog_4_method_1_code (4 : Nat) (Option.none : Option Jvm.ClassFile.FieldType)).before a0 Z = true := hw _ (List.mem_of_getElem? (i := 44) rfl)
theorem wd_45 {a0 : Array Value} {Z : State} (hw : ∀ d ∈ tables_1, d.before a0 Z = true) : (Jvm.Cond.methodLink "com/example/stubwright/stubwright/SourcePosition" (1 : Nat) ({ cls := "java/lang/Object", name := "<init>", desc := "()V" } : Jvm.MethodName)).before a0 Z = true := hw _ (List.mem_of_getElem? (i := 45) rfl)
theorem wd_46 {a0 : Array Value} {Z : State} (hw : ∀ d ∈ tables_1, d.before a0 Z = true) : (Jvm.Cond.stringLink "com/example/stubwright/stubwright/SourcePosition" (7 : Nat) "file").before a0 Z = true := hw _ (List.mem_of_getElem? (i := 46) rfl)
theorem wd_47 {a0 : Array Value} {Z : State} (hw : ∀ d ∈ tables_1, d.before a0 Z = true) : (Jvm.Cond.methodLink "com/example/stubwright/stubwright/SourcePosition" (9 : Nat) ({ cls := "java/util/Objects", name := "requireNonNull", desc := "(Ljava/lang/Object;Ljava/lang/String;)Ljava/lang/Object;" } : Jvm.MethodName)).before a0 Z = true := hw _ (List.mem_of_getElem? (i := 47) rfl)
theorem wd_48 {a0 : Array Value} {Z : State} (hw : ∀ d ∈ tables_1, d.before a0 Z = true) : (Jvm.Cond.static ({ cls := "java/util/Objects", name := "requireNonNull", desc := "(Ljava/lang/Object;Ljava/lang/String;)Ljava/lang/Object;" } : Jvm.MethodName)).before a0 Z = true := hw _ (List.mem_of_getElem? (i := 48) rfl)
theorem wd_49 {a0 : Array Value} {Z : State} (hw : ∀ d ∈ tables_1, d.before a0 Z = true) : (Jvm.Cond.initialized "java/util/Objects").before a0 Z = true := hw _ (List.mem_of_getElem? (i := 49) rfl)
theorem wd_50 {a0 : Array Value} {Z : State} (hw : ∀ d ∈ tables_1, d.before a0 Z = true) : (Jvm.Cond.code ({ cls := "java/util/Objects", name := "requireNonNull", desc := "(Ljava/lang/Object;Ljava/lang/String;)Ljava/lang/Object;" } : Jvm.MethodName) jdk_31_method_11_code (2 : Nat) (Option.some (Jvm.ClassFile.FieldType.object "java/lang/Object"))).before a0 Z = true := hw _ (List.mem_of_getElem? (i := 50) rfl)
theorem wd_51 {a0 : Array Value} {Z : State} (hw : ∀ d ∈ tables_1, d.before a0 Z = true) : (Jvm.Cond.classLink "com/example/stubwright/stubwright/SourcePosition" (15 : Nat) "java/lang/String").before a0 Z = true := hw _ (List.mem_of_getElem? (i := 51) rfl)
theorem wd_52 {a0 : Array Value} {Z : State} (hw : ∀ d ∈ tables_1, d.before a0 Z = true) : (Jvm.Cond.fieldLink "com/example/stubwright/stubwright/SourcePosition" (17 : Nat) "com/example/stubwright/stubwright/SourcePosition" "file" "Ljava/lang/String;").before a0 Z = true := hw _ (List.mem_of_getElem? (i := 52) rfl)
theorem wd_53 {a0 : Array Value} {Z : State} (hw : ∀ d ∈ tables_1, d.before a0 Z = true) : (Jvm.Cond.laysFinal "com/example/stubwright/stubwright/SourcePosition" "com/example/stubwright/stubwright/SourcePosition" "file" "Ljava/lang/String;").before a0 Z = true := hw _ (List.mem_of_getElem? (i := 53) rfl)
theorem wd_54 {a0 : Array Value} {Z : State} (hw : ∀ d ∈ tables_1, d.before a0 Z = true) : (Jvm.Cond.fieldLink "com/example/stubwright/stubwright/SourcePosition" (22 : Nat) "com/example/stubwright/stubwright/SourcePosition" "line" "I").before a0 Z = true := hw _ (List.mem_of_getElem? (i := 54) rfl)
theorem wd_55 {a0 : Array Value} {Z : State} (hw : ∀ d ∈ tables_1, d.before a0 Z = true) : (Jvm.Cond.laysFinal "com/example/stubwright/stubwright/SourcePosition" "com/example/stubwright/stubwright/SourcePosition" "line" "I").before a0 Z = true := hw _ (List.mem_of_getElem? (i := 55) rfl)
theorem wd_56 {a0 : Array Value} {Z : State} (hw : ∀ d ∈ tables_1, d.before a0 Z = true) : (Jvm.Cond.fieldLink "com/example/stubwright/stubwright/SourcePosition" (26 : Nat) "com/example/stubwright/stubwright/SourcePosition" "column" "I").before a0 Z = true := hw _ (List.mem_of_getElem? (i := 56) rfl)
theorem wd_57 {a0 : Array Value} {Z : State} (hw : ∀ d ∈ tables_1, d.before a0 Z = true) : (Jvm.Cond.laysFinal "com/example/stubwright/stubwright/SourcePosition" "com/example/stubwright/stubwright/SourcePosition" "column" "I").before a0 Z = true := hw _ (List.mem_of_getElem? (i := 57) rfl)
theorem wd_58 {a0 : Array Value} {Z : State} (hw : ∀ d ∈ tables_1, d.before a0 Z = true) : (Jvm.Cond.classLink "com/example/stubwright/stubwright/idl/TokenIsKeywordPinLaw" (83 : Nat) "com/example/stubwright/stubwright/idl/Token").before a0 Z = true := hw _ (List.mem_of_getElem? (i := 58) rfl)
theorem wd_59 {a0 : Array Value} {Z : State} (hw : ∀ d ∈ tables_1, d.before a0 Z = true) : (Jvm.Cond.instantiable "com/example/stubwright/stubwright/idl/Token" (4 : Nat)).before a0 Z = true := hw _ (List.mem_of_getElem? (i := 59) rfl)
theorem wd_60 {a0 : Array Value} {Z : State} (hw : ∀ d ∈ tables_1, d.before a0 Z = true) : (Jvm.Cond.initialized "com/example/stubwright/stubwright/idl/Token").before a0 Z = true := hw _ (List.mem_of_getElem? (i := 60) rfl)
theorem wd_61 {a0 : Array Value} {Z : State} (hw : ∀ d ∈ tables_1, d.before a0 Z = true) : (Jvm.Cond.methodLink "com/example/stubwright/stubwright/idl/TokenIsKeywordPinLaw" (85 : Nat) ({ cls := "com/example/stubwright/stubwright/idl/TokenIsKeywordPinLaw", name := "kindOf", desc := "(I)Lcom/example/stubwright/stubwright/idl/Token$Kind;" } : Jvm.MethodName)).before a0 Z = true := hw _ (List.mem_of_getElem? (i := 61) rfl)
theorem wd_62 {a0 : Array Value} {Z : State} (hw : ∀ d ∈ tables_1, d.before a0 Z = true) : (Jvm.Cond.static ({ cls := "com/example/stubwright/stubwright/idl/TokenIsKeywordPinLaw", name := "kindOf", desc := "(I)Lcom/example/stubwright/stubwright/idl/Token$Kind;" } : Jvm.MethodName)).before a0 Z = true := hw _ (List.mem_of_getElem? (i := 62) rfl)
theorem wd_63 {a0 : Array Value} {Z : State} (hw : ∀ d ∈ tables_1, d.before a0 Z = true) : (Jvm.Cond.code ({ cls := "com/example/stubwright/stubwright/idl/TokenIsKeywordPinLaw", name := "kindOf", desc := "(I)Lcom/example/stubwright/stubwright/idl/Token$Kind;" } : Jvm.MethodName) method_2_code (1 : Nat) (Option.some (Jvm.ClassFile.FieldType.object "com/example/stubwright/stubwright/idl/Token$Kind"))).before a0 Z = true := hw _ (List.mem_of_getElem? (i := 63) rfl)
theorem wd_64 {a0 : Array Value} {Z : State} (hw : ∀ d ∈ tables_1, d.before a0 Z = true) : (Jvm.Cond.fieldLink "com/example/stubwright/stubwright/idl/TokenIsKeywordPinLaw" (7 : Nat) "com/example/stubwright/stubwright/idl/Token$Kind" "IDENTIFIER" "Lcom/example/stubwright/stubwright/idl/Token$Kind;").before a0 Z = true := hw _ (List.mem_of_getElem? (i := 64) rfl)
theorem wd_65 {a0 : Array Value} {Z : State} (hw : ∀ d ∈ tables_1, d.before a0 Z = true) : (Jvm.Cond.initialized "com/example/stubwright/stubwright/idl/Token$Kind").before a0 Z = true := hw _ (List.mem_of_getElem? (i := 65) rfl)
theorem wd_66 {a0 : Array Value} {Z : State} (hw : ∀ d ∈ tables_1, d.before a0 Z = true) : (Jvm.Cond.laysStatic "com/example/stubwright/stubwright/idl/Token$Kind" "IDENTIFIER" "Lcom/example/stubwright/stubwright/idl/Token$Kind;").before a0 Z = true := hw _ (List.mem_of_getElem? (i := 66) rfl)
theorem wd_67 {a0 : Array Value} {Z : State} (hw : ∀ d ∈ tables_1, d.before a0 Z = true) : (Jvm.Cond.methodLink "com/example/stubwright/stubwright/idl/TokenIsKeywordPinLaw" (89 : Nat) ({ cls := "com/example/stubwright/stubwright/idl/Token", name := "<init>", desc := "(Lcom/example/stubwright/stubwright/idl/Token$Kind;Ljava/lang/String;Lcom/example/stubwright/stubwright/SourcePosition;)V" } : Jvm.MethodName)).before a0 Z = true := hw _ (List.mem_of_getElem? (i := 67) rfl)
theorem wd_68 {a0 : Array Value} {Z : State} (hw : ∀ d ∈ tables_1, d.before a0 Z = true) : (Jvm.Cond.instanceMethod ({ cls := "com/example/stubwright/stubwright/idl/Token", name := "<init>", desc := "(Lcom/example/stubwright/stubwright/idl/Token$Kind;Ljava/lang/String;Lcom/example/stubwright/stubwright/SourcePosition;)V" } : Jvm.MethodName)).before a0 Z = true := hw _ (List.mem_of_getElem? (i := 68) rfl)
theorem wd_69 {a0 : Array Value} {Z : State} (hw : ∀ d ∈ tables_1, d.before a0 Z = true) : (Jvm.Cond.code ({ cls := "com/example/stubwright/stubwright/idl/Token", name := "<init>", desc := "(Lcom/example/stubwright/stubwright/idl/Token$Kind;Ljava/lang/String;Lcom/example/stubwright/stubwright/SourcePosition;)V" } : Jvm.MethodName) prog_36_method_1_code (4 : Nat) (Option.none : Option Jvm.ClassFile.FieldType)).before a0 Z = true := hw _ (List.mem_of_getElem? (i := 69) rfl)
theorem wd_70 {a0 : Array Value} {Z : State} (hw : ∀ d ∈ tables_1, d.before a0 Z = true) : (Jvm.Cond.methodLink "com/example/stubwright/stubwright/idl/Token" (1 : Nat) ({ cls := "com/example/stubwright/stubwright/idl/Token", name := "<init>", desc := "(Lcom/example/stubwright/stubwright/idl/Token$Kind;Ljava/lang/String;Lcom/example/stubwright/stubwright/SourcePosition;Z)V" } : Jvm.MethodName)).before a0 Z = true := hw _ (List.mem_of_getElem? (i := 70) rfl)
theorem wd_71 {a0 : Array Value} {Z : State} (hw : ∀ d ∈ tables_1, d.before a0 Z = true) : (Jvm.Cond.instanceMethod ({ cls := "com/example/stubwright/stubwright/idl/Token", name := "<init>", desc := "(Lcom/example/stubwright/stubwright/idl/Token$Kind;Ljava/lang/String;Lcom/example/stubwright/stubwright/SourcePosition;Z)V" } : Jvm.MethodName)).before a0 Z = true := hw _ (List.mem_of_getElem? (i := 71) rfl)
theorem wd_72 {a0 : Array Value} {Z : State} (hw : ∀ d ∈ tables_1, d.before a0 Z = true) : (Jvm.Cond.code ({ cls := "com/example/stubwright/stubwright/idl/Token", name := "<init>", desc := "(Lcom/example/stubwright/stubwright/idl/Token$Kind;Ljava/lang/String;Lcom/example/stubwright/stubwright/SourcePosition;Z)V" } : Jvm.MethodName) prog_36_method_2_code (5 : Nat) (Option.none : Option Jvm.ClassFile.FieldType)).before a0 Z = true := hw _ (List.mem_of_getElem? (i := 72) rfl)
theorem wd_73 {a0 : Array Value} {Z : State} (hw : ∀ d ∈ tables_1, d.before a0 Z = true) : (Jvm.Cond.methodLink "com/example/stubwright/stubwright/idl/Token" (7 : Nat) ({ cls := "java/lang/Object", name := "<init>", desc := "()V" } : Jvm.MethodName)).before a0 Z = true := hw _ (List.mem_of_getElem? (i := 73) rfl)
theorem wd_74 {a0 : Array Value} {Z : State} (hw : ∀ d ∈ tables_1, d.before a0 Z = true) : (Jvm.Cond.fieldLink "com/example/stubwright/stubwright/idl/Token" (12 : Nat) "com/example/stubwright/stubwright/idl/Token" "kind" "Lcom/example/stubwright/stubwright/idl/Token$Kind;").before a0 Z = true := hw _ (List.mem_of_getElem? (i := 74) rfl)
theorem wd_75 {a0 : Array Value} {Z : State} (hw : ∀ d ∈ tables_1, d.before a0 Z = true) : (Jvm.Cond.laysFinal "com/example/stubwright/stubwright/idl/Token" "com/example/stubwright/stubwright/idl/Token" "kind" "Lcom/example/stubwright/stubwright/idl/Token$Kind;").before a0 Z = true := hw _ (List.mem_of_getElem? (i := 75) rfl)
theorem wd_76 {a0 : Array Value} {Z : State} (hw : ∀ d ∈ tables_1, d.before a0 Z = true) : (Jvm.Cond.fieldLink "com/example/stubwright/stubwright/idl/Token" (16 : Nat) "com/example/stubwright/stubwright/idl/Token" "text" "Ljava/lang/String;").before a0 Z = true := hw _ (List.mem_of_getElem? (i := 76) rfl)
theorem wd_77 {a0 : Array Value} {Z : State} (hw : ∀ d ∈ tables_1, d.before a0 Z = true) : (Jvm.Cond.laysFinal "com/example/stubwright/stubwright/idl/Token" "com/example/stubwright/stubwright/idl/Token" "text" "Ljava/lang/String;").before a0 Z = true := hw _ (List.mem_of_getElem? (i := 77) rfl)
theorem wd_78 {a0 : Array Value} {Z : State} (hw : ∀ d ∈ tables_1, d.before a0 Z = true) : (Jvm.Cond.fieldLink "com/example/stubwright/stubwright/idl/Token" (20 : Nat) "com/example/stubwright/stubwright/idl/Token" "position" "Lcom/example/stubwright/stubwright/SourcePosition;").before a0 Z = true := hw _ (List.mem_of_getElem? (i := 78) rfl)
theorem wd_79 {a0 : Array Value} {Z : State} (hw : ∀ d ∈ tables_1, d.before a0 Z = true) : (Jvm.Cond.laysFinal "com/example/stubwright/stubwright/idl/Token" "com/example/stubwright/stubwright/idl/Token" "position" "Lcom/example/stubwright/stubwright/SourcePosition;").before a0 Z = true := hw _ (List.mem_of_getElem? (i := 79) rfl)
theorem wd_80 {a0 : Array Value} {Z : State} (hw : ∀ d ∈ tables_1, d.before a0 Z = true) : (Jvm.Cond.fieldLink "com/example/stubwright/stubwright/idl/Token" (24 : Nat) "com/example/stubwright/stubwright/idl/Token" "escaped" "Z").before a0 Z = true := hw _ (List.mem_of_getElem? (i := 80) rfl)
theorem wd_81 {a0 : Array Value} {Z : State} (hw : ∀ d ∈ tables_1, d.before a0 Z = true) : (Jvm.Cond.laysFinal "com/example/stubwright/stubwright/idl/Token" "com/example/stubwright/stubwright/idl/Token" "escaped" "Z").before a0 Z = true := hw _ (List.mem_of_getElem? (i := 81) rfl)
theorem wd_82 {a0 : Array Value} {Z : State} (hw : ∀ d ∈ tables_1, d.before a0 Z = true) : (Jvm.Cond.methodLink "com/example/stubwright/stubwright/idl/TokenIsKeywordPinLaw" (92 : Nat) ({ cls := "com/example/stubwright/stubwright/idl/Token", name := "isKeyword", desc := "(Ljava/lang/String;)Z" } : Jvm.MethodName)).before a0 Z = true := hw _ (List.mem_of_getElem? (i := 82) rfl)
theorem wd_83 {a0 : Array Value} {Z : State} (hw : ∀ d ∈ tables_1, d.before a0 Z = true) : (Jvm.Cond.declares ({ cls := "com/example/stubwright/stubwright/idl/Token", name := "isKeyword", desc := "(Ljava/lang/String;)Z" } : Jvm.MethodName)).before a0 Z = true := hw _ (List.mem_of_getElem? (i := 83) rfl)
theorem wd_84 {a0 : Array Value} {Z : State} (hw : ∀ d ∈ tables_1, d.before a0 Z = true) : (Jvm.Cond.instanceMethod ({ cls := "com/example/stubwright/stubwright/idl/Token", name := "isKeyword", desc := "(Ljava/lang/String;)Z" } : Jvm.MethodName)).before a0 Z = true := hw _ (List.mem_of_getElem? (i := 84) rfl)
theorem wd_85 {a0 : Array Value} {Z : State} (hw : ∀ d ∈ tables_1, d.before a0 Z = true) : (Jvm.Cond.selects "com/example/stubwright/stubwright/idl/Token" ({ cls := "com/example/stubwright/stubwright/idl/Token", name := "isKeyword", desc := "(Ljava/lang/String;)Z" } : Jvm.MethodName) ({ cls := "com/example/stubwright/stubwright/idl/Token", name := "isKeyword", desc := "(Ljava/lang/String;)Z" } : Jvm.MethodName)).before a0 Z = true := hw _ (List.mem_of_getElem? (i := 85) rfl)
theorem wd_86 {a0 : Array Value} {Z : State} (hw : ∀ d ∈ tables_1, d.before a0 Z = true) : (Jvm.Cond.code ({ cls := "com/example/stubwright/stubwright/idl/Token", name := "isKeyword", desc := "(Ljava/lang/String;)Z" } : Jvm.MethodName) prog_36_method_10_code (2 : Nat) (Option.some Jvm.ClassFile.FieldType.boolean)).before a0 Z = true := hw _ (List.mem_of_getElem? (i := 86) rfl)
theorem wd_87 {a0 : Array Value} {Z : State} (hw : ∀ d ∈ tables_1, d.before a0 Z = true) : (Jvm.Cond.fieldLink "com/example/stubwright/stubwright/idl/Token" (37 : Nat) "com/example/stubwright/stubwright/idl/Token$Kind" "KEYWORD" "Lcom/example/stubwright/stubwright/idl/Token$Kind;").before a0 Z = true := hw _ (List.mem_of_getElem? (i := 87) rfl)
theorem wd_88 {a0 : Array Value} {Z : State} (hw : ∀ d ∈ tables_1, d.before a0 Z = true) : (Jvm.Cond.laysStatic "com/example/stubwright/stubwright/idl/Token$Kind" "KEYWORD" "Lcom/example/stubwright/stubwright/idl/Token$Kind;").before a0 Z = true := hw _ (List.mem_of_getElem? (i := 88) rfl)
theorem wd_89 {a0 : Array Value} {Z : State} (hw : ∀ d ∈ tables_1, d.before a0 Z = true) : (Jvm.Cond.fieldLink "com/example/stubwright/stubwright/idl/TokenIsKeywordPinLaw" (46 : Nat) "com/example/stubwright/stubwright/idl/Token$Kind" "DIRECTIVE_END" "Lcom/example/stubwright/stubwright/idl/Token$Kind;").before a0 Z = true := hw _ (List.mem_of_getElem? (i := 89) rfl)
theorem wd_90 {a0 : Array Value} {Z : State} (hw : ∀ d ∈ tables_1, d.before a0 Z = true) : (Jvm.Cond.laysStatic "com/example/stubwright/stubwright/idl/Token$Kind" "DIRECTIVE_END" "Lcom/example/stubwright/stubwright/idl/Token$Kind;").before a0 Z = true := hw _ (List.mem_of_getElem? (i := 90) rfl)
theorem wd_91 {a0 : Array Value} {Z : State} (hw : ∀ d ∈ tables_1, d.before a0 Z = true) : (Jvm.Cond.fieldLink "com/example/stubwright/stubwright/idl/TokenIsKeywordPinLaw" (31 : Nat) "com/example/stubwright/stubwright/idl/Token$Kind" "STRING" "Lcom/example/stubwright/stubwright/idl/Token$Kind;").before a0 Z = true := hw _ (List.mem_of_getElem? (i := 91) rfl)
theorem wd_92 {a0 : Array Value} {Z : State} (hw : ∀ d ∈ tables_1, d.before a0 Z = true) : (Jvm.Cond.laysStatic "com/example/stubwright/stubwright/idl/Token$Kind" "STRING" "Lcom/example/stubwright/stubwright/idl/Token$Kind;").before a0 Z = true := hw _ (List.mem_of_getElem? (i := 92) rfl)
theorem wd_93 {a0 : Array Value} {Z : State} (hw : ∀ d ∈ tables_1, d.before a0 Z = true) : (Jvm.Cond.fieldLink "com/example/stubwright/stubwright/idl/TokenIsKeywordPinLaw" (40 : Nat) "com/example/stubwright/stubwright/idl/Token$Kind" "OTHER" "Lcom/example/stubwright/stubwright/idl/Token$Kind;").before a0 Z = true := hw _ (List.mem_of_getElem? (i := 93) rfl)
theorem wd_94 {a0 : Array Value} {Z : State} (hw : ∀ d ∈ tables_1, d.before a0 Z = true) : (Jvm.Cond.laysStatic "com/example/stubwright/stubwright/idl/Token$Kind" "OTHER" "Lcom/example/stubwright/stubwright/idl/Token$Kind;").before a0 Z = true := hw _ (List.mem_of_getElem? (i := 94) rfl)
theorem wd_95 {a0 : Array Value} {Z : State} (hw : ∀ d ∈ tables_1, d.before a0 Z = true) : (Jvm.Cond.fieldLink "com/example/stubwright/stubwright/idl/TokenIsKeywordPinLaw" (13 : Nat) "com/example/stubwright/stubwright/idl/Token$Kind" "KEYWORD" "Lcom/example/stubwright/stubwright/idl/Token$Kind;").before a0 Z = true := hw _ (List.mem_of_getElem? (i := 95) rfl)
theorem wd_96 {a0 : Array Value} {Z : State} (hw : ∀ d ∈ tables_1, d.before a0 Z = true) : (Jvm.Cond.methodLink "com/example/stubwright/stubwright/idl/Token" (40 : Nat) ({ cls := "java/lang/String", name := "equals", desc := "(Ljava/lang/Object;)Z" } : Jvm.MethodName)).before a0 Z = true := hw _ (List.mem_of_getElem? (i := 96) rfl)
theorem wd_97 {a0 : Array Value} {Z : State} (hw : ∀ d ∈ tables_1, d.before a0 Z = true) : (Jvm.Cond.declares ({ cls := "java/lang/String", name := "equals", desc := "(Ljava/lang/Object;)Z" } : Jvm.MethodName)).before a0 Z = true := hw _ (List.mem_of_getElem? (i := 97) rfl)
theorem wd_98 {a0 : Array Value} {Z : State} (hw : ∀ d ∈ tables_1, d.before a0 Z = true) : (Jvm.Cond.instanceMethod ({ cls := "java/lang/String", name := "equals", desc := "(Ljava/lang/Object;)Z" } : Jvm.MethodName)).before a0 Z = true := hw _ (List.mem_of_getElem? (i := 98) rfl)
theorem wd_99 {a0 : Array Value} {Z : State} (hw : ∀ d ∈ tables_1, d.before a0 Z = true) : (Jvm.Cond.selects "java/lang/String" ({ cls := "java/lang/String", name := "equals", desc := "(Ljava/lang/Object;)Z" } : Jvm.MethodName) ({ cls := "java/lang/String", name := "equals", desc := "(Ljava/lang/Object;)Z" } : Jvm.MethodName)).before a0 Z = true := hw _ (List.mem_of_getElem? (i := 99) rfl)
theorem wd_106 {a0 : Array Value} {Z : State} (hw : ∀ d ∈ tables_1, d.before a0 Z = true) : (Jvm.Cond.fieldLink "com/example/stubwright/stubwright/idl/TokenIsKeywordPinLaw" (19 : Nat) "com/example/stubwright/stubwright/idl/Token$Kind" "FLOATING_POINT" "Lcom/example/stubwright/stubwright/idl/Token$Kind;").before a0 Z = true := hw _ (List.mem_of_getElem? (i := 106) rfl)
theorem wd_107 {a0 : Array Value} {Z : State} (hw : ∀ d ∈ tables_1, d.before a0 Z = true) : (Jvm.Cond.laysStatic "com/example/stubwright/stubwright/idl/Token$Kind" "FLOATING_POINT" "Lcom/example/stubwright/stubwright/idl/Token$Kind;").before a0 Z = true := hw _ (List.mem_of_getElem? (i := 107) rfl)
theorem wd_108 {a0 : Array Value} {Z : State} (hw : ∀ d ∈ tables_1, d.before a0 Z = true) : (Jvm.Cond.fieldLink "com/example/stubwright/stubwright/idl/TokenIsKeywordPinLaw" (43 : Nat) "com/example/stubwright/stubwright/idl/Token$Kind" "DIRECTIVE" "Lcom/example/stubwright/stubwright/idl/Token$Kind;").before a0 Z = true := hw _ (List.mem_of_getElem? (i := 108) rfl)
theorem wd_109 {a0 : Array Value} {Z : State} (hw : ∀ d ∈ tables_1, d.before a0 Z = true) : (Jvm.Cond.laysStatic "com/example/stubwright/stubwright/idl/Token$Kind" "DIRECTIVE" "Lcom/example/stubwright/stubwright/idl/Token$Kind;").before a0 Z = true := hw _ (List.mem_of_getElem? (i := 109) rfl)
theorem wd_110 {a0 : Array Value} {Z : State} (hw : ∀ d ∈ tables_1, d.before a0 Z = true) : (Jvm.Cond.fieldLink "com/example/stubwright/stubwright/idl/TokenIsKeywordPinLaw" (37 : Nat) "com/example/stubwright/stubwright/idl/Token$Kind" "PUNCTUATOR" "Lcom/example/stubwright/stubwright/idl/Token$Kind;").before a0 Z = true := hw _ (List.mem_of_getElem? (i := 110) rfl)
theorem wd_111 {a0 : Array Value} {Z : State} (hw : ∀ d ∈ tables_1, d.before a0 Z = true) : (Jvm.Cond.laysStatic "com/example/stubwright/stubwright/idl/Token$Kind" "PUNCTUATOR" "Lcom/example/stubwright/stubwright/idl/Token$Kind;").before a0 Z = true := hw _ (List.mem_of_getElem? (i := 111) rfl)
theorem wd_112 {a0 : Array Value} {Z : State} (hw : ∀ d ∈ tables_1, d.before a0 Z = true) : (Jvm.Cond.fieldLink "com/example/stubwright/stubwright/idl/TokenIsKeywordPinLaw" (58 : Nat) "com/example/stubwright/stubwright/idl/Token$Kind" "PRAGMA" "Lcom/example/stubwright/stubwright/idl/Token$Kind;").before a0 Z = true := hw _ (List.mem_of_getElem? (i := 112) rfl)
theorem wd_113 {a0 : Array Value} {Z : State} (hw : ∀ d ∈ tables_1, d.before a0 Z = true) : (Jvm.Cond.laysStatic "com/example/stubwright/stubwright/idl/Token$Kind" "PRAGMA" "Lcom/example/stubwright/stubwright/idl/Token$Kind;").before a0 Z = true := hw _ (List.mem_of_getElem? (i := 113) rfl)
theorem wd_114 {a0 : Array Value} {Z : State} (hw : ∀ d ∈ tables_1, d.before a0 Z = true) : (Jvm.Cond.fieldLink "com/example/stubwright/stubwright/idl/TokenIsKeywordPinLaw" (34 : Nat) "com/example/stubwright/stubwright/idl/Token$Kind" "WIDE_STRING" "Lcom/example/stubwright/stubwright/idl/Token$Kind;").before a0 Z = true := hw _ (List.mem_of_getElem? (i := 114) rfl)
theorem wd_115 {a0 : Array Value} {Z : State} (hw : ∀ d ∈ tables_1, d.before a0 Z = true) : (Jvm.Cond.laysStatic "com/example/stubwright/stubwright/idl/Token$Kind" "WIDE_STRING" "Lcom/example/stubwright/stubwright/idl/Token$Kind;").before a0 Z = true := hw _ (List.mem_of_getElem? (i := 115) rfl)
theorem wd_116 {a0 : Array Value} {Z : State} (hw : ∀ d ∈ tables_1, d.before a0 Z = true) : (Jvm.Cond.fieldLink "com/example/stubwright/stubwright/idl/TokenIsKeywordPinLaw" (16 : Nat) "com/example/stubwright/stubwright/idl/Token$Kind" "INTEGER" "Lcom/example/stubwright/stubwright/idl/Token$Kind;").before a0 Z = true := hw _ (List.mem_of_getElem? (i := 116) rfl)
theorem wd_117 {a0 : Array Value} {Z : State} (hw : ∀ d ∈ tables_1, d.before a0 Z = true) : (Jvm.Cond.laysStatic "com/example/stubwright/stubwright/idl/Token$Kind" "INTEGER" "Lcom/example/stubwright/stubwright/idl/Token$Kind;").before a0 Z = true := hw _ (List.mem_of_getElem? (i := 117) rfl)
theorem wd_118 {a0 : Array Value} {Z : State} (hw : ∀ d ∈ tables_1, d.before a0 Z = true) : (Jvm.Cond.fieldLink "com/example/stubwright/stubwright/idl/TokenIsKeywordPinLaw" (49 : Nat) "com/example/stubwright/stubwright/idl/Token$Kind" "HEADER_NAME" "Lcom/example/stubwright/stubwright/idl/Token$Kind;").before a0 Z = true := hw _ (List.mem_of_getElem? (i := 118) rfl)
theorem wd_119 {a0 : Array Value} {Z : State} (hw : ∀ d ∈ tables_1, d.before a0 Z = true) : (Jvm.Cond.laysStatic "com/example/stubwright/stubwright/idl/Token$Kind" "HEADER_NAME" "Lcom/example/stubwright/stubwright/idl/Token$Kind;").before a0 Z = true := hw _ (List.mem_of_getElem? (i := 119) rfl)
theorem wd_120 {a0 : Array Value} {Z : State} (hw : ∀ d ∈ tables_1, d.before a0 Z = true) : (Jvm.Cond.fieldLink "com/example/stubwright/stubwright/idl/TokenIsKeywordPinLaw" (22 : Nat) "com/example/stubwright/stubwright/idl/Token$Kind" "FIXED_POINT" "Lcom/example/stubwright/stubwright/idl/Token$Kind;").before a0 Z = true := hw _ (List.mem_of_getElem? (i := 120) rfl)
theorem wd_121 {a0 : Array Value} {Z : State} (hw : ∀ d ∈ tables_1, d.before a0 Z = true) : (Jvm.Cond.laysStatic "com/example/stubwright/stubwright/idl/Token$Kind" "FIXED_POINT" "Lcom/example/stubwright/stubwright/idl/Token$Kind;").before a0 Z = true := hw _ (List.mem_of_getElem? (i := 121) rfl)
theorem wd_122 {a0 : Array Value} {Z : State} (hw : ∀ d ∈ tables_1, d.before a0 Z = true) : (Jvm.Cond.fieldLink "com/example/stubwright/stubwright/idl/TokenIsKeywordPinLaw" (61 : Nat) "com/example/stubwright/stubwright/idl/Token$Kind" "END" "Lcom/example/stubwright/stubwright/idl/Token$Kind;").before a0 Z = true := hw _ (List.mem_of_getElem? (i := 122) rfl)
theorem wd_123 {a0 : Array Value} {Z : State} (hw : ∀ d ∈ tables_1, d.before a0 Z = true) : (Jvm.Cond.laysStatic "com/example/stubwright/stubwright/idl/Token$Kind" "END" "Lcom/example/stubwright/stubwright/idl/Token$Kind;").before a0 Z = true := hw _ (List.mem_of_getElem? (i := 123) rfl)
theorem wd_124 {a0 : Array Value} {Z : State} (hw : ∀ d ∈ tables_1, d.before a0 Z = true) : (Jvm.Cond.fieldLink "com/example/stubwright/stubwright/idl/TokenIsKeywordPinLaw" (25 : Nat) "com/example/stubwright/stubwright/idl/Token$Kind" "CHARACTER" "Lcom/example/stubwright/stubwright/idl/Token$Kind;").before a0 Z = true := hw _ (List.mem_of_getElem? (i := 124) rfl)
theorem wd_125 {a0 : Array Value} {Z : State} (hw : ∀ d ∈ tables_1, d.before a0 Z = true) : (Jvm.Cond.laysStatic "com/example/stubwright/stubwright/idl/Token$Kind" "CHARACTER" "Lcom/example/stubwright/stubwright/idl/Token$Kind;").before a0 Z = true := hw _ (List.mem_of_getElem? (i := 125) rfl)
theorem wd_126 {a0 : Array Value} {Z : State} (hw : ∀ d ∈ tables_1, d.before a0 Z = true) : (Jvm.Cond.fieldLink "com/example/stubwright/stubwright/idl/TokenIsKeywordPinLaw" (52 : Nat) "com/example/stubwright/stubwright/idl/Token$Kind" "INCLUDE_START" "Lcom/example/stubwright/stubwright/idl/Token$Kind;").before a0 Z = true := hw _ (List.mem_of_getElem? (i := 126) rfl)
theorem wd_127 {a0 : Array Value} {Z : State} (hw : ∀ d ∈ tables_1, d.before a0 Z = true) : (Jvm.Cond.laysStatic "com/example/stubwright/stubwright/idl/Token$Kind" "INCLUDE_START" "Lcom/example/stubwright/stubwright/idl/Token$Kind;").before a0 Z = true := hw _ (List.mem_of_getElem? (i := 127) rfl)
theorem wd_128 {a0 : Array Value} {Z : State} (hw : ∀ d ∈ tables_1, d.before a0 Z = true) : (Jvm.Cond.fieldLink "com/example/stubwright/stubwright/idl/TokenIsKeywordPinLaw" (28 : Nat) "com/example/stubwright/stubwright/idl/Token$Kind" "WIDE_CHARACTER" "Lcom/example/stubwright/stubwright/idl/Token$Kind;").before a0 Z = true := hw _ (List.mem_of_getElem? (i := 128) rfl)
theorem wd_129 {a0 : Array Value} {Z : State} (hw : ∀ d ∈ tables_1, d.before a0 Z = true) : (Jvm.Cond.laysStatic "com/example/stubwright/stubwright/idl/Token$Kind" "WIDE_CHARACTER" "Lcom/example/stubwright/stubwright/idl/Token$Kind;").before a0 Z = true := hw _ (List.mem_of_getElem? (i := 129) rfl)
theorem wd_130 {a0 : Array Value} {Z : State} (hw : ∀ d ∈ tables_1, d.before a0 Z = true) : (Jvm.Cond.fieldLink "com/example/stubwright/stubwright/idl/TokenIsKeywordPinLaw" (55 : Nat) "com/example/stubwright/stubwright/idl/Token$Kind" "INCLUDE_END" "Lcom/example/stubwright/stubwright/idl/Token$Kind;").before a0 Z = true := hw _ (List.mem_of_getElem? (i := 130) rfl)
theorem wd_131 {a0 : Array Value} {Z : State} (hw : ∀ d ∈ tables_1, d.before a0 Z = true) : (Jvm.Cond.laysStatic "com/example/stubwright/stubwright/idl/Token$Kind" "INCLUDE_END" "Lcom/example/stubwright/stubwright/idl/Token$Kind;").before a0 Z = true := hw _ (List.mem_of_getElem? (i := 131) rfl)
theorem pn_0 : plainName "java/lang/String" = true := by first | (simp [plainName, overriddenIn]; done) | decide +kernel
theorem pn_1 : plainName "com/example/stubwright/stubwright/idl/TokenIsKeywordPinLaw" = true := by first | (simp [plainName, overriddenIn]; done) | decide +kernel
theorem pn_2 : plainName "java/util/Objects" = true := by first | (simp [plainName, overriddenIn]; done) | decide +kernel
theorem pn_3 : plainName "com/example/stubwright/stubwright/SourcePosition" = true := by first | (simp [plainName, overriddenIn]; done) | decide +kernel
theorem pn_4 : plainName "com/example/stubwright/stubwright/idl/Token" = true := by first | (simp [plainName, overriddenIn]; done) | decide +kernel
theorem pd_0 : parseMethodDescriptor "([CIILjava/lang/Void;)V" = some ⟨[(.array .char), .int, .int, (.object "java/lang/Void")], none⟩ := by decide +kernel
theorem pd_1 : parseMethodDescriptor "([C)V" = some ⟨[(.array .char)], none⟩ := by decide +kernel
theorem pd_2 : parseMethodDescriptor "(Ljava/lang/Object;Ljava/lang/String;)Ljava/lang/Object;" = some ⟨[(.object "java/lang/Object"), (.object "java/lang/String")], some (.object "java/lang/Object")⟩ := by decide +kernel
theorem pd_3 : parseMethodDescriptor "(Lcom/example/stubwright/stubwright/idl/Token$Kind;Ljava/lang/String;Lcom/example/stubwright/stubwright/SourcePosition;Z)V" = some ⟨[(.object "com/example/stubwright/stubwright/idl/Token$Kind"), (.object "java/lang/String"), (.object "com/example/stubwright/stubwright/SourcePosition"), .boolean], none⟩ := by decide +kernel
theorem pd_4 : parseMethodDescriptor "(Ljava/lang/Object;)Z" = some ⟨[(.object "java/lang/Object")], some .boolean⟩ := by decide +kernel
theorem pd_5 : parseMethodDescriptor "(ICC)Ljava/lang/String;" = some ⟨[.int, .char, .char], some (.object "java/lang/String")⟩ := by decide +kernel
theorem pd_6 : parseMethodDescriptor "(Ljava/lang/String;II)V" = some ⟨[(.object "java/lang/String"), .int, .int], none⟩ := by decide +kernel
theorem pd_7 : parseMethodDescriptor "(I)Lcom/example/stubwright/stubwright/idl/Token$Kind;" = some ⟨[.int], some (.object "com/example/stubwright/stubwright/idl/Token$Kind")⟩ := by decide +kernel
theorem pd_8 : parseMethodDescriptor "(Lcom/example/stubwright/stubwright/idl/Token$Kind;Ljava/lang/String;Lcom/example/stubwright/stubwright/SourcePosition;)V" = some ⟨[(.object "com/example/stubwright/stubwright/idl/Token$Kind"), (.object "java/lang/String"), (.object "com/example/stubwright/stubwright/SourcePosition")], none⟩ := by decide +kernel
theorem pd_9 : parseMethodDescriptor "(Ljava/lang/String;)Z" = some ⟨[(.object "java/lang/String")], some .boolean⟩ := by decide +kernel
theorem pf_0 : parseFieldDescriptor "[B" = some (.array .byte) := by decide +kernel
theorem pf_1 : parseFieldDescriptor "B" = some .byte := by decide +kernel
theorem pf_2 : parseFieldDescriptor "Ljava/lang/String;" = some (.object "java/lang/String") := by decide +kernel
theorem pf_3 : parseFieldDescriptor "I" = some .int := by decide +kernel
theorem pf_4 : parseFieldDescriptor "Lcom/example/stubwright/stubwright/idl/Token$Kind;" = some (.object "com/example/stubwright/stubwright/idl/Token$Kind") := by decide +kernel
theorem pf_5 : parseFieldDescriptor "Lcom/example/stubwright/stubwright/SourcePosition;" = some (.object "com/example/stubwright/stubwright/SourcePosition") := by decide +kernel
theorem pf_6 : parseFieldDescriptor "Z" = some .boolean := by decide +kernel
theorem sn_0 {a0 : Array Value} {Z : State} (hw : ∀ d ∈ tables_1, d.before a0 Z = true) : Jvm.RoadKit.slotOf Z "java/lang/String" "coder" "B" ≠ Jvm.RoadKit.slotOf Z "java/lang/String" "value" "[B" := slot_ne (a0 := a0) (C := "java/lang/String") (Or.inr (wd_32 hw)) (Or.inr (wd_34 hw)) (by decide) pf_1 pf_0
theorem sn_1 {a0 : Array Value} {Z : State} (hw : ∀ d ∈ tables_1, d.before a0 Z = true) : Jvm.RoadKit.slotOf Z "java/lang/String" "value" "[B" ≠ Jvm.RoadKit.slotOf Z "java/lang/String" "coder" "B" := slot_ne (a0 := a0) (C := "java/lang/String") (Or.inr (wd_34 hw)) (Or.inr (wd_32 hw)) (by decide) pf_0 pf_1
theorem sn_2 {a0 : Array Value} {Z : State} (hw : ∀ d ∈ tables_1, d.before a0 Z = true) : Jvm.RoadKit.slotOf Z "com/example/stubwright/stubwright/SourcePosition" "line" "I" ≠ Jvm.RoadKit.slotOf Z "com/example/stubwright/stubwright/SourcePosition" "file" "Ljava/lang/String;" := slot_ne (a0 := a0) (C := "com/example/stubwright/stubwright/SourcePosition") (Or.inr (wd_55 hw)) (Or.inr (wd_53 hw)) (by decide) pf_3 pf_2
theorem sn_3 {a0 : Array Value} {Z : State} (hw : ∀ d ∈ tables_1, d.before a0 Z = true) : Jvm.RoadKit.slotOf Z "com/example/stubwright/stubwright/SourcePosition" "column" "I" ≠ Jvm.RoadKit.slotOf Z "com/example/stubwright/stubwright/SourcePosition" "file" "Ljava/lang/String;" := slot_ne (a0 := a0) (C := "com/example/stubwright/stubwright/SourcePosition") (Or.inr (wd_57 hw)) (Or.inr (wd_53 hw)) (by decide) pf_3 pf_2
theorem sn_4 {a0 : Array Value} {Z : State} (hw : ∀ d ∈ tables_1, d.before a0 Z = true) : Jvm.RoadKit.slotOf Z "com/example/stubwright/stubwright/SourcePosition" "column" "I" ≠ Jvm.RoadKit.slotOf Z "com/example/stubwright/stubwright/SourcePosition" "line" "I" := slot_ne (a0 := a0) (C := "com/example/stubwright/stubwright/SourcePosition") (Or.inr (wd_57 hw)) (Or.inr (wd_55 hw)) (by decide) pf_3 pf_3
theorem sn_5 {a0 : Array Value} {Z : State} (hw : ∀ d ∈ tables_1, d.before a0 Z = true) : Jvm.RoadKit.slotOf Z "com/example/stubwright/stubwright/idl/Token" "text" "Ljava/lang/String;" ≠ Jvm.RoadKit.slotOf Z "com/example/stubwright/stubwright/idl/Token" "kind" "Lcom/example/stubwright/stubwright/idl/Token$Kind;" := slot_ne (a0 := a0) (C := "com/example/stubwright/stubwright/idl/Token") (Or.inr (wd_77 hw)) (Or.inr (wd_75 hw)) (by decide) pf_2 pf_4
theorem sn_6 {a0 : Array Value} {Z : State} (hw : ∀ d ∈ tables_1, d.before a0 Z = true) : Jvm.RoadKit.slotOf Z "com/example/stubwright/stubwright/idl/Token" "position" "Lcom/example/stubwright/stubwright/SourcePosition;" ≠ Jvm.RoadKit.slotOf Z "com/example/stubwright/stubwright/idl/Token" "kind" "Lcom/example/stubwright/stubwright/idl/Token$Kind;" := slot_ne (a0 := a0) (C := "com/example/stubwright/stubwright/idl/Token") (Or.inr (wd_79 hw)) (Or.inr (wd_75 hw)) (by decide) pf_5 pf_4
theorem sn_7 {a0 : Array Value} {Z : State} (hw : ∀ d ∈ tables_1, d.before a0 Z = true) : Jvm.RoadKit.slotOf Z "com/example/stubwright/stubwright/idl/Token" "position" "Lcom/example/stubwright/stubwright/SourcePosition;" ≠ Jvm.RoadKit.slotOf Z "com/example/stubwright/stubwright/idl/Token" "text" "Ljava/lang/String;" := slot_ne (a0 := a0) (C := "com/example/stubwright/stubwright/idl/Token") (Or.inr (wd_79 hw)) (Or.inr (wd_77 hw)) (by decide) pf_5 pf_2
theorem sn_8 {a0 : Array Value} {Z : State} (hw : ∀ d ∈ tables_1, d.before a0 Z = true) : Jvm.RoadKit.slotOf Z "com/example/stubwright/stubwright/idl/Token" "escaped" "Z" ≠ Jvm.RoadKit.slotOf Z "com/example/stubwright/stubwright/idl/Token" "kind" "Lcom/example/stubwright/stubwright/idl/Token$Kind;" := slot_ne (a0 := a0) (C := "com/example/stubwright/stubwright/idl/Token") (Or.inr (wd_81 hw)) (Or.inr (wd_75 hw)) (by decide) pf_6 pf_4
theorem sn_9 {a0 : Array Value} {Z : State} (hw : ∀ d ∈ tables_1, d.before a0 Z = true) : Jvm.RoadKit.slotOf Z "com/example/stubwright/stubwright/idl/Token" "escaped" "Z" ≠ Jvm.RoadKit.slotOf Z "com/example/stubwright/stubwright/idl/Token" "text" "Ljava/lang/String;" := slot_ne (a0 := a0) (C := "com/example/stubwright/stubwright/idl/Token") (Or.inr (wd_81 hw)) (Or.inr (wd_77 hw)) (by decide) pf_6 pf_2
theorem sn_10 {a0 : Array Value} {Z : State} (hw : ∀ d ∈ tables_1, d.before a0 Z = true) : Jvm.RoadKit.slotOf Z "com/example/stubwright/stubwright/idl/Token" "escaped" "Z" ≠ Jvm.RoadKit.slotOf Z "com/example/stubwright/stubwright/idl/Token" "position" "Lcom/example/stubwright/stubwright/SourcePosition;" := slot_ne (a0 := a0) (C := "com/example/stubwright/stubwright/idl/Token") (Or.inr (wd_81 hw)) (Or.inr (wd_79 hw)) (by decide) pf_6 pf_5
theorem sn_11 {a0 : Array Value} {Z : State} (hw : ∀ d ∈ tables_1, d.before a0 Z = true) : Jvm.RoadKit.slotOf Z "com/example/stubwright/stubwright/idl/Token" "kind" "Lcom/example/stubwright/stubwright/idl/Token$Kind;" ≠ Jvm.RoadKit.slotOf Z "com/example/stubwright/stubwright/idl/Token" "text" "Ljava/lang/String;" := slot_ne (a0 := a0) (C := "com/example/stubwright/stubwright/idl/Token") (Or.inr (wd_75 hw)) (Or.inr (wd_77 hw)) (by decide) pf_4 pf_2
theorem sn_12 {a0 : Array Value} {Z : State} (hw : ∀ d ∈ tables_1, d.before a0 Z = true) : Jvm.RoadKit.slotOf Z "com/example/stubwright/stubwright/idl/Token" "kind" "Lcom/example/stubwright/stubwright/idl/Token$Kind;" ≠ Jvm.RoadKit.slotOf Z "com/example/stubwright/stubwright/idl/Token" "position" "Lcom/example/stubwright/stubwright/SourcePosition;" := slot_ne (a0 := a0) (C := "com/example/stubwright/stubwright/idl/Token") (Or.inr (wd_75 hw)) (Or.inr (wd_79 hw)) (by decide) pf_4 pf_5
theorem sn_13 {a0 : Array Value} {Z : State} (hw : ∀ d ∈ tables_1, d.before a0 Z = true) : Jvm.RoadKit.slotOf Z "com/example/stubwright/stubwright/idl/Token" "kind" "Lcom/example/stubwright/stubwright/idl/Token$Kind;" ≠ Jvm.RoadKit.slotOf Z "com/example/stubwright/stubwright/idl/Token" "escaped" "Z" := slot_ne (a0 := a0) (C := "com/example/stubwright/stubwright/idl/Token") (Or.inr (wd_75 hw)) (Or.inr (wd_81 hw)) (by decide) pf_4 pf_6
theorem sn_14 {a0 : Array Value} {Z : State} (hw : ∀ d ∈ tables_1, d.before a0 Z = true) : Jvm.RoadKit.slotOf Z "com/example/stubwright/stubwright/idl/Token" "text" "Ljava/lang/String;" ≠ Jvm.RoadKit.slotOf Z "com/example/stubwright/stubwright/idl/Token" "position" "Lcom/example/stubwright/stubwright/SourcePosition;" := slot_ne (a0 := a0) (C := "com/example/stubwright/stubwright/idl/Token") (Or.inr (wd_77 hw)) (Or.inr (wd_79 hw)) (by decide) pf_2 pf_5
theorem sn_15 {a0 : Array Value} {Z : State} (hw : ∀ d ∈ tables_1, d.before a0 Z = true) : Jvm.RoadKit.slotOf Z "com/example/stubwright/stubwright/idl/Token" "text" "Ljava/lang/String;" ≠ Jvm.RoadKit.slotOf Z "com/example/stubwright/stubwright/idl/Token" "escaped" "Z" := slot_ne (a0 := a0) (C := "com/example/stubwright/stubwright/idl/Token") (Or.inr (wd_77 hw)) (Or.inr (wd_81 hw)) (by decide) pf_2 pf_6
theorem sn_16 {a0 : Array Value} {Z : State} (hw : ∀ d ∈ tables_1, d.before a0 Z = true) : Jvm.RoadKit.slotOf Z "com/example/stubwright/stubwright/idl/Token" "position" "Lcom/example/stubwright/stubwright/SourcePosition;" ≠ Jvm.RoadKit.slotOf Z "com/example/stubwright/stubwright/idl/Token" "escaped" "Z" := slot_ne (a0 := a0) (C := "com/example/stubwright/stubwright/idl/Token") (Or.inr (wd_79 hw)) (Or.inr (wd_81 hw)) (by decide) pf_5 pf_6
theorem d_jdk_31_method_11_code_0 : decode jdk_31_method_11_code 0 = .ok (.aload_n 0, 1) := by decide +kernel
theorem d_jdk_31_method_11_code_1 : decode jdk_31_method_11_code 1 = .ok (.ifnonnull 12, 3) := by decide +kernel
theorem d_jdk_31_method_11_code_13 : decode jdk_31_method_11_code 13 = .ok (.aload_n 0, 1) := by decide +kernel
theorem d_jdk_31_method_11_code_14 : decode jdk_31_method_11_code 14 = .ok (.areturn, 1) := by decide +kernel
theorem d_jdk_42_method_149_code_0 : decode jdk_42_method_149_code 0 = .ok (.aload_n 0, 1) := by decide +kernel
theorem d_jdk_42_method_149_code_1 : decode jdk_42_method_149_code 1 = .ok (.invokespecial 1, 3) := by decide +kernel
theorem d_jdk_42_method_149_code_11 : decode jdk_42_method_149_code 11 = .ok (.getfield 9, 3) := by decide +kernel
theorem d_jdk_42_method_149_code_14 : decode jdk_42_method_149_code 14 = .ok (.putfield 9, 3) := by decide +kernel
theorem d_jdk_42_method_149_code_17 : decode jdk_42_method_149_code 17 = .ok (.aload_n 0, 1) := by decide +kernel
theorem d_jdk_42_method_149_code_18 : decode jdk_42_method_149_code 18 = .ok (.ldc 7, 2) := by decide +kernel
theorem d_jdk_42_method_149_code_20 : decode jdk_42_method_149_code 20 = .ok (.getfield 15, 3) := by decide +kernel
theorem d_jdk_42_method_149_code_23 : decode jdk_42_method_149_code 23 = .ok (.putfield 15, 3) := by decide +kernel
theorem d_jdk_42_method_149_code_26 : decode jdk_42_method_149_code 26 = .ok (.return_, 1) := by decide +kernel
theorem d_jdk_42_method_149_code_4 : decode jdk_42_method_149_code 4 = .ok (.iload_n 3, 1) := by decide +kernel
theorem d_jdk_42_method_149_code_5 : decode jdk_42_method_149_code 5 = .ok (.ifCond .ne 22, 3) := by decide +kernel
theorem d_jdk_42_method_149_code_8 : decode jdk_42_method_149_code 8 = .ok (.aload_n 0, 1) := by decide +kernel
theorem d_jdk_42_method_149_code_9 : decode jdk_42_method_149_code 9 = .ok (.ldc 7, 2) := by decide +kernel
theorem d_jdk_42_method_3_code_0 : decode jdk_42_method_3_code 0 = .ok (.aload_n 0, 1) := by decide +kernel
theorem d_jdk_42_method_3_code_1 : decode jdk_42_method_3_code 1 = .ok (.aload_n 1, 1) := by decide +kernel
theorem d_jdk_42_method_3_code_2 : decode jdk_42_method_3_code 2 = .ok (.iconst 0, 1) := by decide +kernel
theorem d_jdk_42_method_3_code_3 : decode jdk_42_method_3_code 3 = .ok (.aload_n 1, 1) := by decide +kernel
theorem d_jdk_42_method_3_code_4 : decode jdk_42_method_3_code 4 = .ok (.arraylength, 1) := by decide +kernel
theorem d_jdk_42_method_3_code_5 : decode jdk_42_method_3_code 5 = .ok (.aconst_null, 1) := by decide +kernel
theorem d_jdk_42_method_3_code_6 : decode jdk_42_method_3_code 6 = .ok (.invokespecial 27, 3) := by decide +kernel
theorem d_jdk_42_method_3_code_9 : decode jdk_42_method_3_code 9 = .ok (.return_, 1) := by decide +kernel
theorem d_method_2_code_0 : decode method_2_code 0 = .ok (.iload_n 0, 1) := by decide +kernel
theorem d_method_2_code_1 : decode method_2_code 1 = .ok (.ifCond .ne 7, 3) := by decide +kernel
theorem d_method_2_code_10 : decode method_2_code 10 = .ok (.if_icmp .ne 7, 3) := by decide +kernel
theorem d_method_2_code_102 : decode method_2_code 102 = .ok (.areturn, 1) := by decide +kernel
theorem d_method_2_code_103 : decode method_2_code 103 = .ok (.iload_n 0, 1) := by decide +kernel
theorem d_method_2_code_104 : decode method_2_code 104 = .ok (.bipush 11, 2) := by decide +kernel
theorem d_method_2_code_106 : decode method_2_code 106 = .ok (.if_icmp .ne 7, 3) := by decide +kernel
theorem d_method_2_code_109 : decode method_2_code 109 = .ok (.getstatic 43, 3) := by decide +kernel
theorem d_method_2_code_112 : decode method_2_code 112 = .ok (.areturn, 1) := by decide +kernel
theorem d_method_2_code_113 : decode method_2_code 113 = .ok (.iload_n 0, 1) := by decide +kernel
theorem d_method_2_code_114 : decode method_2_code 114 = .ok (.bipush 12, 2) := by decide +kernel
theorem d_method_2_code_116 : decode method_2_code 116 = .ok (.if_icmp .ne 7, 3) := by decide +kernel
theorem d_method_2_code_119 : decode method_2_code 119 = .ok (.getstatic 46, 3) := by decide +kernel
theorem d_method_2_code_122 : decode method_2_code 122 = .ok (.areturn, 1) := by decide +kernel
theorem d_method_2_code_123 : decode method_2_code 123 = .ok (.iload_n 0, 1) := by decide +kernel
theorem d_method_2_code_124 : decode method_2_code 124 = .ok (.bipush 13, 2) := by decide +kernel
theorem d_method_2_code_126 : decode method_2_code 126 = .ok (.if_icmp .ne 7, 3) := by decide +kernel
theorem d_method_2_code_129 : decode method_2_code 129 = .ok (.getstatic 49, 3) := by decide +kernel
theorem d_method_2_code_13 : decode method_2_code 13 = .ok (.getstatic 13, 3) := by decide +kernel
theorem d_method_2_code_132 : decode method_2_code 132 = .ok (.areturn, 1) := by decide +kernel
theorem d_method_2_code_133 : decode method_2_code 133 = .ok (.iload_n 0, 1) := by decide +kernel
theorem d_method_2_code_134 : decode method_2_code 134 = .ok (.bipush 14, 2) := by decide +kernel
theorem d_method_2_code_136 : decode method_2_code 136 = .ok (.if_icmp .ne 7, 3) := by decide +kernel
theorem d_method_2_code_139 : decode method_2_code 139 = .ok (.getstatic 52, 3) := by decide +kernel
theorem d_method_2_code_142 : decode method_2_code 142 = .ok (.areturn, 1) := by decide +kernel
theorem d_method_2_code_143 : decode method_2_code 143 = .ok (.iload_n 0, 1) := by decide +kernel
theorem d_method_2_code_144 : decode method_2_code 144 = .ok (.bipush 15, 2) := by decide +kernel
theorem d_method_2_code_146 : decode method_2_code 146 = .ok (.if_icmp .ne 7, 3) := by decide +kernel
theorem d_method_2_code_149 : decode method_2_code 149 = .ok (.getstatic 55, 3) := by decide +kernel
theorem d_method_2_code_152 : decode method_2_code 152 = .ok (.areturn, 1) := by decide +kernel
theorem d_method_2_code_153 : decode method_2_code 153 = .ok (.iload_n 0, 1) := by decide +kernel
theorem d_method_2_code_154 : decode method_2_code 154 = .ok (.bipush 16, 2) := by decide +kernel
theorem d_method_2_code_156 : decode method_2_code 156 = .ok (.if_icmp .ne 7, 3) := by decide +kernel
theorem d_method_2_code_159 : decode method_2_code 159 = .ok (.getstatic 58, 3) := by decide +kernel
theorem d_method_2_code_16 : decode method_2_code 16 = .ok (.areturn, 1) := by decide +kernel
theorem d_method_2_code_162 : decode method_2_code 162 = .ok (.areturn, 1) := by decide +kernel
theorem d_method_2_code_163 : decode method_2_code 163 = .ok (.getstatic 61, 3) := by decide +kernel
theorem d_method_2_code_166 : decode method_2_code 166 = .ok (.areturn, 1) := by decide +kernel
theorem d_method_2_code_17 : decode method_2_code 17 = .ok (.iload_n 0, 1) := by decide +kernel
theorem d_method_2_code_18 : decode method_2_code 18 = .ok (.iconst 2, 1) := by decide +kernel
theorem d_method_2_code_19 : decode method_2_code 19 = .ok (.if_icmp .ne 7, 3) := by decide +kernel
theorem d_method_2_code_22 : decode method_2_code 22 = .ok (.getstatic 16, 3) := by decide +kernel
theorem d_method_2_code_25 : decode method_2_code 25 = .ok (.areturn, 1) := by decide +kernel
theorem d_method_2_code_26 : decode method_2_code 26 = .ok (.iload_n 0, 1) := by decide +kernel
theorem d_method_2_code_27 : decode method_2_code 27 = .ok (.iconst 3, 1) := by decide +kernel
theorem d_method_2_code_28 : decode method_2_code 28 = .ok (.if_icmp .ne 7, 3) := by decide +kernel
theorem d_method_2_code_31 : decode method_2_code 31 = .ok (.getstatic 19, 3) := by decide +kernel
theorem d_method_2_code_34 : decode method_2_code 34 = .ok (.areturn, 1) := by decide +kernel
theorem d_method_2_code_35 : decode method_2_code 35 = .ok (.iload_n 0, 1) := by decide +kernel
theorem d_method_2_code_36 : decode method_2_code 36 = .ok (.iconst 4, 1) := by decide +kernel
theorem d_method_2_code_37 : decode method_2_code 37 = .ok (.if_icmp .ne 7, 3) := by decide +kernel
theorem d_method_2_code_4 : decode method_2_code 4 = .ok (.getstatic 7, 3) := by decide +kernel
theorem d_method_2_code_40 : decode method_2_code 40 = .ok (.getstatic 22, 3) := by decide +kernel
theorem d_method_2_code_43 : decode method_2_code 43 = .ok (.areturn, 1) := by decide +kernel
theorem d_method_2_code_44 : decode method_2_code 44 = .ok (.iload_n 0, 1) := by decide +kernel
theorem d_method_2_code_45 : decode method_2_code 45 = .ok (.iconst 5, 1) := by decide +kernel
theorem d_method_2_code_46 : decode method_2_code 46 = .ok (.if_icmp .ne 7, 3) := by decide +kernel
theorem d_method_2_code_49 : decode method_2_code 49 = .ok (.getstatic 25, 3) := by decide +kernel
theorem d_method_2_code_52 : decode method_2_code 52 = .ok (.areturn, 1) := by decide +kernel
theorem d_method_2_code_53 : decode method_2_code 53 = .ok (.iload_n 0, 1) := by decide +kernel
theorem d_method_2_code_54 : decode method_2_code 54 = .ok (.bipush 6, 2) := by decide +kernel
theorem d_method_2_code_56 : decode method_2_code 56 = .ok (.if_icmp .ne 7, 3) := by decide +kernel
theorem d_method_2_code_59 : decode method_2_code 59 = .ok (.getstatic 28, 3) := by decide +kernel
theorem d_method_2_code_62 : decode method_2_code 62 = .ok (.areturn, 1) := by decide +kernel
theorem d_method_2_code_63 : decode method_2_code 63 = .ok (.iload_n 0, 1) := by decide +kernel
theorem d_method_2_code_64 : decode method_2_code 64 = .ok (.bipush 7, 2) := by decide +kernel
theorem d_method_2_code_66 : decode method_2_code 66 = .ok (.if_icmp .ne 7, 3) := by decide +kernel
theorem d_method_2_code_69 : decode method_2_code 69 = .ok (.getstatic 31, 3) := by decide +kernel
theorem d_method_2_code_7 : decode method_2_code 7 = .ok (.areturn, 1) := by decide +kernel
theorem d_method_2_code_72 : decode method_2_code 72 = .ok (.areturn, 1) := by decide +kernel
theorem d_method_2_code_73 : decode method_2_code 73 = .ok (.iload_n 0, 1) := by decide +kernel
theorem d_method_2_code_74 : decode method_2_code 74 = .ok (.bipush 8, 2) := by decide +kernel
theorem d_method_2_code_76 : decode method_2_code 76 = .ok (.if_icmp .ne 7, 3) := by decide +kernel
theorem d_method_2_code_79 : decode method_2_code 79 = .ok (.getstatic 34, 3) := by decide +kernel
theorem d_method_2_code_8 : decode method_2_code 8 = .ok (.iload_n 0, 1) := by decide +kernel
theorem d_method_2_code_82 : decode method_2_code 82 = .ok (.areturn, 1) := by decide +kernel
theorem d_method_2_code_83 : decode method_2_code 83 = .ok (.iload_n 0, 1) := by decide +kernel
theorem d_method_2_code_84 : decode method_2_code 84 = .ok (.bipush 9, 2) := by decide +kernel
theorem d_method_2_code_86 : decode method_2_code 86 = .ok (.if_icmp .ne 7, 3) := by decide +kernel
theorem d_method_2_code_89 : decode method_2_code 89 = .ok (.getstatic 37, 3) := by decide +kernel
theorem d_method_2_code_9 : decode method_2_code 9 = .ok (.iconst 1, 1) := by decide +kernel
theorem d_method_2_code_92 : decode method_2_code 92 = .ok (.areturn, 1) := by decide +kernel
theorem d_method_2_code_93 : decode method_2_code 93 = .ok (.iload_n 0, 1) := by decide +kernel
theorem d_method_2_code_94 : decode method_2_code 94 = .ok (.bipush 10, 2) := by decide +kernel
theorem d_method_2_code_96 : decode method_2_code 96 = .ok (.if_icmp .ne 7, 3) := by decide +kernel
theorem d_method_2_code_99 : decode method_2_code 99 = .ok (.getstatic 40, 3) := by decide +kernel
theorem d_method_3_code_0 : decode method_3_code 0 = .ok (.iload_n 0, 1) := by decide +kernel
theorem d_method_3_code_1 : decode method_3_code 1 = .ok (.ifCond .ne 14, 3) := by decide +kernel
theorem d_method_3_code_11 : decode method_3_code 11 = .ok (.invokespecial 66, 3) := by decide +kernel
theorem d_method_3_code_14 : decode method_3_code 14 = .ok (.areturn, 1) := by decide +kernel
theorem d_method_3_code_15 : decode method_3_code 15 = .ok (.iload_n 0, 1) := by decide +kernel
theorem d_method_3_code_16 : decode method_3_code 16 = .ok (.iconst 1, 1) := by decide +kernel
theorem d_method_3_code_17 : decode method_3_code 17 = .ok (.if_icmp .ne 18, 3) := by decide +kernel
theorem d_method_3_code_20 : decode method_3_code 20 = .ok (.new 64, 3) := by decide +kernel
theorem d_method_3_code_23 : decode method_3_code 23 = .ok (.dup, 1) := by decide +kernel
theorem d_method_3_code_24 : decode method_3_code 24 = .ok (.iconst 1, 1) := by decide +kernel
theorem d_method_3_code_25 : decode method_3_code 25 = .ok (.newarray .char, 2) := by decide +kernel
theorem d_method_3_code_27 : decode method_3_code 27 = .ok (.dup, 1) := by decide +kernel
theorem d_method_3_code_28 : decode method_3_code 28 = .ok (.iconst 0, 1) := by decide +kernel
theorem d_method_3_code_29 : decode method_3_code 29 = .ok (.iload_n 1, 1) := by decide +kernel
theorem d_method_3_code_30 : decode method_3_code 30 = .ok (.castore, 1) := by decide +kernel
theorem d_method_3_code_31 : decode method_3_code 31 = .ok (.invokespecial 66, 3) := by decide +kernel
theorem d_method_3_code_34 : decode method_3_code 34 = .ok (.areturn, 1) := by decide +kernel
theorem d_method_3_code_35 : decode method_3_code 35 = .ok (.new 64, 3) := by decide +kernel
theorem d_method_3_code_38 : decode method_3_code 38 = .ok (.dup, 1) := by decide +kernel
theorem d_method_3_code_39 : decode method_3_code 39 = .ok (.iconst 2, 1) := by decide +kernel
theorem d_method_3_code_4 : decode method_3_code 4 = .ok (.new 64, 3) := by decide +kernel
theorem d_method_3_code_40 : decode method_3_code 40 = .ok (.newarray .char, 2) := by decide +kernel
theorem d_method_3_code_42 : decode method_3_code 42 = .ok (.dup, 1) := by decide +kernel
theorem d_method_3_code_43 : decode method_3_code 43 = .ok (.iconst 0, 1) := by decide +kernel
theorem d_method_3_code_44 : decode method_3_code 44 = .ok (.iload_n 1, 1) := by decide +kernel
theorem d_method_3_code_45 : decode method_3_code 45 = .ok (.castore, 1) := by decide +kernel
theorem d_method_3_code_46 : decode method_3_code 46 = .ok (.dup, 1) := by decide +kernel
theorem d_method_3_code_47 : decode method_3_code 47 = .ok (.iconst 1, 1) := by decide +kernel
theorem d_method_3_code_48 : decode method_3_code 48 = .ok (.iload_n 2, 1) := by decide +kernel
theorem d_method_3_code_49 : decode method_3_code 49 = .ok (.castore, 1) := by decide +kernel
theorem d_method_3_code_50 : decode method_3_code 50 = .ok (.invokespecial 66, 3) := by decide +kernel
theorem d_method_3_code_53 : decode method_3_code 53 = .ok (.areturn, 1) := by decide +kernel
theorem d_method_3_code_7 : decode method_3_code 7 = .ok (.dup, 1) := by decide +kernel
theorem d_method_3_code_8 : decode method_3_code 8 = .ok (.iconst 0, 1) := by decide +kernel
theorem d_method_3_code_9 : decode method_3_code 9 = .ok (.newarray .char, 2) := by decide +kernel
theorem d_prog_36_method_10_code_0 : decode prog_36_method_10_code 0 = .ok (.aload_n 0, 1) := by decide +kernel
theorem d_prog_36_method_10_code_1 : decode prog_36_method_10_code 1 = .ok (.getfield 12, 3) := by decide +kernel
theorem d_prog_36_method_10_code_10 : decode prog_36_method_10_code 10 = .ok (.aload_n 0, 1) := by decide +kernel
theorem d_prog_36_method_10_code_11 : decode prog_36_method_10_code 11 = .ok (.getfield 16, 3) := by decide +kernel
theorem d_prog_36_method_10_code_14 : decode prog_36_method_10_code 14 = .ok (.aload_n 1, 1) := by decide +kernel
theorem d_prog_36_method_10_code_15 : decode prog_36_method_10_code 15 = .ok (.invokevirtual 40, 3) := by decide +kernel
theorem d_prog_36_method_10_code_18 : decode prog_36_method_10_code 18 = .ok (.ifCond .eq 7, 3) := by decide +kernel
theorem d_prog_36_method_10_code_21 : decode prog_36_method_10_code 21 = .ok (.iconst 1, 1) := by decide +kernel
theorem d_prog_36_method_10_code_22 : decode prog_36_method_10_code 22 = .ok (.goto 4, 3) := by decide +kernel
theorem d_prog_36_method_10_code_25 : decode prog_36_method_10_code 25 = .ok (.iconst 0, 1) := by decide +kernel
theorem d_prog_36_method_10_code_26 : decode prog_36_method_10_code 26 = .ok (.ireturn, 1) := by decide +kernel
theorem d_prog_36_method_10_code_4 : decode prog_36_method_10_code 4 = .ok (.getstatic 37, 3) := by decide +kernel
theorem d_prog_36_method_10_code_7 : decode prog_36_method_10_code 7 = .ok (.if_acmp .ne 18, 3) := by decide +kernel
theorem d_prog_36_method_1_code_0 : decode prog_36_method_1_code 0 = .ok (.aload_n 0, 1) := by decide +kernel
theorem d_prog_36_method_1_code_1 : decode prog_36_method_1_code 1 = .ok (.aload_n 1, 1) := by decide +kernel
theorem d_prog_36_method_1_code_2 : decode prog_36_method_1_code 2 = .ok (.aload_n 2, 1) := by decide +kernel
theorem d_prog_36_method_1_code_3 : decode prog_36_method_1_code 3 = .ok (.aload_n 3, 1) := by decide +kernel
theorem d_prog_36_method_1_code_4 : decode prog_36_method_1_code 4 = .ok (.iconst 0, 1) := by decide +kernel
theorem d_prog_36_method_1_code_5 : decode prog_36_method_1_code 5 = .ok (.invokespecial 1, 3) := by decide +kernel
theorem d_prog_36_method_1_code_8 : decode prog_36_method_1_code 8 = .ok (.return_, 1) := by decide +kernel
theorem d_prog_36_method_2_code_0 : decode prog_36_method_2_code 0 = .ok (.aload_n 0, 1) := by decide +kernel
theorem d_prog_36_method_2_code_1 : decode prog_36_method_2_code 1 = .ok (.invokespecial 7, 3) := by decide +kernel
theorem d_prog_36_method_2_code_10 : decode prog_36_method_2_code 10 = .ok (.aload_n 2, 1) := by decide +kernel
theorem d_prog_36_method_2_code_11 : decode prog_36_method_2_code 11 = .ok (.putfield 16, 3) := by decide +kernel
theorem d_prog_36_method_2_code_14 : decode prog_36_method_2_code 14 = .ok (.aload_n 0, 1) := by decide +kernel
theorem d_prog_36_method_2_code_15 : decode prog_36_method_2_code 15 = .ok (.aload_n 3, 1) := by decide +kernel
theorem d_prog_36_method_2_code_16 : decode prog_36_method_2_code 16 = .ok (.putfield 20, 3) := by decide +kernel
theorem d_prog_36_method_2_code_19 : decode prog_36_method_2_code 19 = .ok (.aload_n 0, 1) := by decide +kernel
theorem d_prog_36_method_2_code_20 : decode prog_36_method_2_code 20 = .ok (.iload 4, 2) := by decide +kernel
theorem d_prog_36_method_2_code_22 : decode prog_36_method_2_code 22 = .ok (.putfield 24, 3) := by decide +kernel
theorem d_prog_36_method_2_code_25 : decode prog_36_method_2_code 25 = .ok (.return_, 1) := by decide +kernel
theorem d_prog_36_method_2_code_4 : decode prog_36_method_2_code 4 = .ok (.aload_n 0, 1) := by decide +kernel
theorem d_prog_36_method_2_code_5 : decode prog_36_method_2_code 5 = .ok (.aload_n 1, 1) := by decide +kernel
theorem d_prog_36_method_2_code_6 : decode prog_36_method_2_code 6 = .ok (.putfield 12, 3) := by decide +kernel
theorem d_prog_36_method_2_code_9 : decode prog_36_method_2_code 9 = .ok (.aload_n 0, 1) := by decide +kernel
theorem d_prog_4_method_1_code_0 : decode prog_4_method_1_code 0 = .ok (.aload_n 0, 1) := by decide +kernel
theorem d_prog_4_method_1_code_1 : decode prog_4_method_1_code 1 = .ok (.invokespecial 1, 3) := by decide +kernel
theorem d_prog_4_method_1_code_11 : decode prog_4_method_1_code 11 = .ok (.checkcast 15, 3) := by decide +kernel
theorem d_prog_4_method_1_code_14 : decode prog_4_method_1_code 14 = .ok (.putfield 17, 3) := by decide +kernel
theorem d_prog_4_method_1_code_17 : decode prog_4_method_1_code 17 = .ok (.aload_n 0, 1) := by decide +kernel
theorem d_prog_4_method_1_code_18 : decode prog_4_method_1_code 18 = .ok (.iload_n 2, 1) := by decide +kernel
theorem d_prog_4_method_1_code_19 : decode prog_4_method_1_code 19 = .ok (.putfield 22, 3) := by decide +kernel
theorem d_prog_4_method_1_code_22 : decode prog_4_method_1_code 22 = .ok (.aload_n 0, 1) := by decide +kernel
theorem d_prog_4_method_1_code_23 : decode prog_4_method_1_code 23 = .ok (.iload_n 3, 1) := by decide +kernel
theorem d_prog_4_method_1_code_24 : decode prog_4_method_1_code 24 = .ok (.putfield 26, 3) := by decide +kernel
theorem d_prog_4_method_1_code_27 : decode prog_4_method_1_code 27 = .ok (.return_, 1) := by decide +kernel
theorem d_prog_4_method_1_code_4 : decode prog_4_method_1_code 4 = .ok (.aload_n 0, 1) := by decide +kernel
theorem d_prog_4_method_1_code_5 : decode prog_4_method_1_code 5 = .ok (.aload_n 1, 1) := by decide +kernel
theorem d_prog_4_method_1_code_6 : decode prog_4_method_1_code 6 = .ok (.ldc 7, 2) := by decide +kernel
theorem d_prog_4_method_1_code_8 : decode prog_4_method_1_code 8 = .ok (.invokestatic 9, 3) := by decide +kernel
theorem lat0 : ∀ c ∈ ([] : List Int32), ¬ c < 0 ∧ ¬ (255 : Int32) < c := fun _ q => nomatch q
theorem latc {x : Int32} {cs : List Int32} (q : ¬ x < 0 ∧ ¬ (255 : Int32) < x) (r : ∀ c ∈ cs, ¬ c < 0 ∧ ¬ (255 : Int32) < c) : ∀ c ∈ x :: cs, ¬ c < 0 ∧ ¬ (255 : Int32) < c := fun c z => (List.mem_cons.mp z).elim (fun u => u ▸ q) (r c)
theorem eqv_if {cs ds : List Int32} {v : Option Value} (h : (v = some (.int 1) ∧ cs = ds) ∨ (v = some (.int 0) ∧ ¬ cs = ds)) : v = some (.int (if cs = ds then (1 : Int32) else 0)) := by
  rcases h with ⟨a, b⟩ | ⟨a, b⟩
  · rw [a, if_pos b]
  · rw [a, if_neg b]
theorem sw_words {a0 : Array Value} {Z : State} (hw : ∀ d ∈ tables_1, d.before a0 Z = true) : ∀ d ∈ StrChars.Road.words, d.before a0 Z = true := fun d hd => hw d ((by decide +kernel : ∀ d ∈ StrChars.Road.words, d ∈ tables_1) d hd)
theorem sw_wordsEq {a0 : Array Value} {Z : State} (hw : ∀ d ∈ tables_1, d.before a0 Z = true) : ∀ d ∈ StrChars.Road.wordsEq, d.before a0 Z = true := fun d hd => hw d ((by decide +kernel : ∀ d ∈ StrChars.Road.wordsEq, d ∈ tables_1) d hd)
def EL : List (String × Nat) := [("com/example/stubwright/stubwright/SourcePosition", 7), ("com/example/stubwright/stubwright/idl/TokenIsKeywordPinLaw", 78), ("java/lang/String", 7)]
theorem hEL_ {Z : State} {a0 : Array Value} (hw : ∀ d ∈ tables_1, d.before a0 Z = true) : EW Z a0 EL := (EW.cons (wd_46 hw) (by decide) (EW.cons (wd_41 hw) (by decide) (EW.cons (wd_35 hw) (by decide) EW.nil)))
theorem hwS_ {Z : State} {a0 : Array Value} (hw : ∀ d ∈ tables_1, d.before a0 Z = true) : ∀ d ∈ Bundle.stringAtoms, d.before a0 Z = true := fun d hd => hw d ((by decide +kernel : ∀ d ∈ Bundle.stringAtoms, d ∈ tables_1) d hd)
def St (Z : State) (zc : Int32) (kd0 : Addr) (kd1 : Addr) (kd2 : Addr) (kd3 : Addr) (kd4 : Addr) (kd5 : Addr) (kd6 : Addr) (kd7 : Addr) (kd8 : Addr) (kd9 : Addr) (kd10 : Addr) (kd11 : Addr) (kd12 : Addr) (kd13 : Addr) (kd14 : Addr) (kd15 : Addr) (kd16 : Addr) (kd17 : Addr) : Prop := Sta Z Z.heap "java/lang/String" "COMPACT_STRINGS" "Z" (.int zc) ∧ ¬ zc = 0 ∧ Sta Z Z.heap "com/example/stubwright/stubwright/idl/Token$Kind" "IDENTIFIER" "Lcom/example/stubwright/stubwright/idl/Token$Kind;" (.ref kd0) ∧ Sta Z Z.heap "com/example/stubwright/stubwright/idl/Token$Kind" "KEYWORD" "Lcom/example/stubwright/stubwright/idl/Token$Kind;" (.ref kd1) ∧ Sta Z Z.heap "com/example/stubwright/stubwright/idl/Token$Kind" "INTEGER" "Lcom/example/stubwright/stubwright/idl/Token$Kind;" (.ref kd2) ∧ Sta Z Z.heap "com/example/stubwright/stubwright/idl/Token$Kind" "FLOATING_POINT" "Lcom/example/stubwright/stubwright/idl/Token$Kind;" (.ref kd3) ∧ Sta Z Z.heap "com/example/stubwright/stubwright/idl/Token$Kind" "FIXED_POINT" "Lcom/example/stubwright/stubwright/idl/Token$Kind;" (.ref kd4) ∧ Sta Z Z.heap "com/example/stubwright/stubwright/idl/Token$Kind" "CHARACTER" "Lcom/example/stubwright/stubwright/idl/Token$Kind;" (.ref kd5) ∧ Sta Z Z.heap "com/example/stubwright/stubwright/idl/Token$Kind" "WIDE_CHARACTER" "Lcom/example/stubwright/stubwright/idl/Token$Kind;" (.ref kd6) ∧ Sta Z Z.heap "com/example/stubwright/stubwright/idl/Token$Kind" "STRING" "Lcom/example/stubwright/stubwright/idl/Token$Kind;" (.ref kd7) ∧ Sta Z Z.heap "com/example/stubwright/stubwright/idl/Token$Kind" "WIDE_STRING" "Lcom/example/stubwright/stubwright/idl/Token$Kind;" (.ref kd8) ∧ Sta Z Z.heap "com/example/stubwright/stubwright/idl/Token$Kind" "PUNCTUATOR" "Lcom/example/stubwright/stubwright/idl/Token$Kind;" (.ref kd9) ∧ Sta Z Z.heap "com/example/stubwright/stubwright/idl/Token$Kind" "OTHER" "Lcom/example/stubwright/stubwright/idl/Token$Kind;" (.ref kd10) ∧ Sta Z Z.heap "com/example/stubwright/stubwright/idl/Token$Kind" "DIRECTIVE" "Lcom/example/stubwright/stubwright/idl/Token$Kind;" (.ref kd11) ∧ Sta Z Z.heap "com/example/stubwright/stubwright/idl/Token$Kind" "DIRECTIVE_END" "Lcom/example/stubwright/stubwright/idl/Token$Kind;" (.ref kd12) ∧ Sta Z Z.heap "com/example/stubwright/stubwright/idl/Token$Kind" "HEADER_NAME" "Lcom/example/stubwright/stubwright/idl/Token$Kind;" (.ref kd13) ∧ Sta Z Z.heap "com/example/stubwright/stubwright/idl/Token$Kind" "INCLUDE_START" "Lcom/example/stubwright/stubwright/idl/Token$Kind;" (.ref kd14) ∧ Sta Z Z.heap "com/example/stubwright/stubwright/idl/Token$Kind" "INCLUDE_END" "Lcom/example/stubwright/stubwright/idl/Token$Kind;" (.ref kd15) ∧ Sta Z Z.heap "com/example/stubwright/stubwright/idl/Token$Kind" "PRAGMA" "Lcom/example/stubwright/stubwright/idl/Token$Kind;" (.ref kd16) ∧ Sta Z Z.heap "com/example/stubwright/stubwright/idl/Token$Kind" "END" "Lcom/example/stubwright/stubwright/idl/Token$Kind;" (.ref kd17) ∧ kd0 ≠ kd1 ∧ kd2 ≠ kd1 ∧ kd3 ≠ kd1 ∧ kd4 ≠ kd1 ∧ kd5 ≠ kd1 ∧ kd6 ≠ kd1 ∧ kd7 ≠ kd1 ∧ kd8 ≠ kd1 ∧ kd9 ≠ kd1 ∧ kd10 ≠ kd1 ∧ kd11 ≠ kd1 ∧ kd12 ≠ kd1 ∧ kd13 ≠ kd1 ∧ kd14 ≠ kd1 ∧ kd15 ≠ kd1 ∧ kd16 ≠ kd1 ∧ kd17 ≠ kd1
theorem nar255 (x : Int32) : nar .char (x &&& (255 : Int32)) = x &&& (255 : Int32) := i2c_mask x
theorem lat255 (x : Int32) : ¬ (x &&& (255 : Int32)) < 0 ∧ ¬ (255 : Int32) < x &&& (255 : Int32) := by
  have h := c_mask x 255 8 (by decide) (by decide)
  have e1 : (255 : Int32).toInt = 255 := by decide
  have e2 : (0 : Int32).toInt = 0 := by decide
  rw [Int32.lt_iff_toInt_lt, Int32.lt_iff_toInt_lt, h]
  omega
theorem latI {x : Int32} (h : ¬ x < 0 ∧ ¬ (255 : Int32) < x) : 0 ≤ x.toInt ∧ x.toInt ≤ 255 := by
  have e1 : (255 : Int32).toInt = 255 := by decide
  have e2 : (0 : Int32).toInt = 0 := by decide
  rw [Int32.lt_iff_toInt_lt, Int32.lt_iff_toInt_lt] at h
  omega
theorem nar_lat {x : Int32} (h : ¬ x < 0 ∧ ¬ (255 : Int32) < x) : nar .char x = x := by
  have q := latI h
  have r := c_i2c x
  have s := rng32 x
  apply Int32.toInt_inj.mp
  show x.toUInt32.toUInt16.toUInt32.toInt32.toInt = x.toInt
  omega
theorem i8_inj {x y : Int32} (hx : ¬ x < 0 ∧ ¬ (255 : Int32) < x) (hy : ¬ y < 0 ∧ ¬ (255 : Int32) < y) (e : x.toInt8.toInt32 = y.toInt8.toInt32) : x = y := by
  have a := latI hx
  have b := latI hy
  have r := c_i2b x
  have s := c_i2b y
  rw [e] at r
  apply Int32.toInt_inj.mp
  omega
theorem bytes_getD (cs : List Int32) (i : Nat) : ((cs.map fun c => c.toInt8.toInt32).map Value.int).getD i (.int (0 : Int32)) = .int (cs.getD i 0).toInt8.toInt32 := by
  rw [List.map_map, List.getD_eq_getElem?_getD, List.getD_eq_getElem?_getD, List.getElem?_map]
  cases cs[i]? <;> rfl
theorem ofNat_toInt {k : Nat} (h : k ≤ 100000) : (Int32.ofNat k).toInt = k := Int32.toInt_ofNat_small (by omega)
theorem lt_ofNat {k i : Nat} {j : Int32} (h : k ≤ 100000) (e : j.toInt = i) (q : i < k) : ¬ j < 0 ∧ j < Int32.ofNat k := by
  rw [Int32.lt_iff_toInt_lt, Int32.lt_iff_toInt_lt, ofNat_toInt h, e]
  have e2 : (0 : Int32).toInt = 0 := by decide
  omega
theorem sub_lt0 {k n : Nat} {j : Int32} (h : k ≤ 100000) (e : j.toInt = n) (q : n ≤ 100000) : (Int32.ofNat k - j) < 0 ↔ k < n := by
  have a := c_isub (Int32.ofNat k) j
  have b := rng32 (Int32.ofNat k - j)
  rw [ofNat_toInt h, e] at a
  have e2 : (0 : Int32).toInt = 0 := by decide
  rw [Int32.lt_iff_toInt_lt, e2]
  omega
theorem b01_iff {P Q : Prop} [Decidable P] [Decidable Q] (h : P ↔ Q) : (if P then (1 : Int32) else 0) = (if Q then (1 : Int32) else 0) := by
  by_cases q : P
  · rw [if_pos q, if_pos (h.mp q)]
  · rw [if_neg q, if_neg (fun z => q (h.mpr z))]
theorem rem18 (x : Int32) : 0 ≤ ((x &&& (2147483647 : Int32)) % (18 : Int32)).toInt ∧ ((x &&& (2147483647 : Int32)) % (18 : Int32)).toInt < 18 := by
  have h := c_mask x 2147483647 31 (by decide) (by decide)
  have r := (c_irem (x &&& (2147483647 : Int32)) 18 18 (by decide)).1 (by omega)
  omega
theorem rem3 (x : Int32) : 0 ≤ ((x &&& (2147483647 : Int32)) % (3 : Int32)).toInt ∧ ((x &&& (2147483647 : Int32)) % (3 : Int32)).toInt < 3 := by
  have h := c_mask x 2147483647 31 (by decide) (by decide)
  have r := (c_irem (x &&& (2147483647 : Int32)) 3 3 (by decide)).1 (by omega)
  omega

def mkL (n c0 c1 : Int32) : List Int32 := if n = 0 then [] else if n = 1 then [c0] else [c0, c1]
theorem mkL_iff {n k c0 c1 d0 d1 : Int32} (hn : 0 ≤ n.toInt ∧ n.toInt < 3) (hk : 0 ≤ k.toInt ∧ k.toInt < 3) : mkL n c0 c1 = mkL k d0 d1 ↔ (n = k ∧ (n < (1 : Int32) ∨ c0 = d0) ∧ (n < (2 : Int32) ∨ c1 = d1)) := by
  have t : ∀ z : Int32, 0 ≤ z.toInt ∧ z.toInt < 3 → z = 0 ∨ z = 1 ∨ z = 2 := fun z hz => by
    have q : z.toInt = 0 ∨ z.toInt = 1 ∨ z.toInt = 2 := by omega
    rcases q with q | q | q
    · exact Or.inl (Int32.toInt_inj.mp q)
    · exact Or.inr (Or.inl (Int32.toInt_inj.mp q))
    · exact Or.inr (Or.inr (Int32.toInt_inj.mp q))
  rcases t n hn with rfl | rfl | rfl <;> rcases t k hk with rfl | rfl | rfl <;> simp [mkL]
theorem rem3b (x : Int32) : 0 ≤ ((x &&& (255 : Int32)) % (3 : Int32)).toInt ∧ ((x &&& (255 : Int32)) % (3 : Int32)).toInt < 3 := by
  have h := c_mask x 255 8 (by decide) (by decide)
  have r := (c_irem (x &&& (255 : Int32)) 3 3 (by decide)).1 (by omega)
  omega
--@C init4e
def Q_init4e (Z : State) (zc : Int32) (kd0 : Addr) (kd1 : Addr) (kd2 : Addr) (kd3 : Addr) (kd4 : Addr) (kd5 : Addr) (kd6 : Addr) (kd7 : Addr) (kd8 : Addr) (kd9 : Addr) (kd10 : Addr) (kd11 : Addr) (kd12 : Addr) (kd13 : Addr) (kd14 : Addr) (kd15 : Addr) (kd16 : Addr) (kd17 : Addr) (a1 : Addr) (a2 : Addr) (h0 : Heap) (n0 : Nat) (v : Option Value) (h : Heap) (L : List Loc) : Prop := v = none ∧ Fr n0 L ∧ Keep h0 h [a1] ∧ Str Z h.size h a1 ([] : List Int32)
set_option maxRecDepth 65536 in
set_option maxHeartbeats 40000000 in
theorem rm_init4e (l : Launch) (Z : State) (a0 : Array Value) (hw : ∀ d ∈ tables_1, d.before a0 Z = true) (zc : Int32) (kd0 : Addr) (kd1 : Addr) (kd2 : Addr) (kd3 : Addr) (kd4 : Addr) (kd5 : Addr) (kd6 : Addr) (kd7 : Addr) (kd8 : Addr) (kd9 : Addr) (kd10 : Addr) (kd11 : Addr) (kd12 : Addr) (kd13 : Addr) (kd14 : Addr) (kd15 : Addr) (kd16 : Addr) (kd17 : Addr) (a1 : Addr) (a2 : Addr) (h0 : Heap) (n0 : Nat) (Z0 : n0 ≤ h0.size) (E_a1 : Exa Z h0 a1 "java/lang/String") (F_a1v : Fld Z h0 a1 "java/lang/String" "value" "[B" .null) (F_a1c : Fld Z h0 a1 "java/lang/String" "coder" "B" (.int (0 : Int32))) (g_a1 : n0 ≤ a1) (hSt : St Z zc kd0 kd1 kd2 kd3 kd4 kd5 kd6 kd7 kd8 kd9 kd10 kd11 kd12 kd13 kd14 kd15 kd16 kd17) (hO : Old Z n0 h0) :
    CW l Z EL ({ cls := "java/lang/String", name := "<init>", desc := "([CIILjava/lang/Void;)V" } : Jvm.MethodName) [(Jvm.Cond.code ({ cls := "java/lang/String", name := "<init>", desc := "([CIILjava/lang/Void;)V" } : Jvm.MethodName) jdk_42_method_149_code (6 : Nat) (Option.none : Option Jvm.ClassFile.FieldType))] ({ frames := 1, cells := 4, slots := 8, locals := 12 } : Room) #[(.ref a1), (.ref a2), (.int (0 : Int32)), (.int (0 : Int32)), .null] h0 (Q_init4e Z zc kd0 kd1 kd2 kd3 kd4 kd5 kd6 kd7 kd8 kd9 kd10 kd11 kd12 kd13 kd14 kd15 kd16 kd17 a1 a2 h0 n0) := by
  refine CW.of (L0 := #[.val (.ref a1), .val (.ref a2), .val (.int (0 : Int32)), .val (.int (0 : Int32)), .val .null, .unset]) (plainFor_of_name pn_0) (fun m => by first | (simp [entryFrame, mkF, argsToLocals, Value.category]; done) | rfl) ?_
  intro p e s m below meth c s₁ hx hby hml hret hlk hZ hown hnm X0 e0 hS0 hk0 CV0 hh0
  have hEL := hEL_ (a0 := a0) hw
  have hwS := hwS_ hw
  have N0 := Fr.nil n0
  have KP0 := Keep.refl h0 [a1]
  have hSt_ := hSt
  obtain ⟨S_cs, n_cs, S_kd0, S_kd1, S_kd2, S_kd3, S_kd4, S_kd5, S_kd6, S_kd7, S_kd8, S_kd9, S_kd10, S_kd11, S_kd12, S_kd13, S_kd14, S_kd15, S_kd16, S_kd17, ne_kd0, ne_kd2, ne_kd3, ne_kd4, ne_kd5, ne_kd6, ne_kd7, ne_kd8, ne_kd9, ne_kd10, ne_kd11, ne_kd12, ne_kd13, ne_kd14, ne_kd15, ne_kd16, ne_kd17⟩ := hSt_
  have Sf_a1 : Safe Z EL s.vm h0 a1 := own_safe_null hZ.alike E_a1 F_a1v (wd_6 hw)
  show Go p e below _ (s₁.setTop (mkF m 0 #[.val (.ref a1), .val (.ref a2), .val (.int (0 : Int32)), .val (.int (0 : Int32)), .val .null, .unset] []))
  refine Go.step (fun _ k => XS.aloadN X0.here hx rfl (hb hby d_jdk_42_method_149_code_0) rfl rfl k) ?_
  show Go p e below _ (s₁.setTop (mkF m 1 #[.val (.ref a1), .val (.ref a2), .val (.int (0 : Int32)), .val (.int (0 : Int32)), .val .null, .unset] [(.ref a1)]))
  obtain ⟨T_1, X_1, e_1, st_1⟩ := initO X0 hx hZ hown (wd_16 hw) (wd_17 hw) (wd_18 hw) e0 (g := (mkF m 1 #[.val (.ref a1), .val (.ref a2), .val (.int (0 : Int32)), .val (.int (0 : Int32)), .val .null, .unset] [(.ref a1)])) rfl (by rw [hml]; rfl) rfl (hb hby d_jdk_42_method_149_code_1) (by decide) (W := 0) (by show 2 * 0 + _ ≤ _; exact Nat.le_of_eq rfl) (by decide)
  refine Go.step st_1 ?_
  show Go p e below _ (T_1.setTop (mkF m 4 #[.val (.ref a1), .val (.ref a2), .val (.int (0 : Int32)), .val (.int (0 : Int32)), .val .null, .unset] []))
  refine Go.step (fun _ k => XS.iloadN X_1.here hx rfl (hb hby d_jdk_42_method_149_code_4) rfl  k) ?_
  show Go p e below _ (T_1.setTop (mkF m 5 #[.val (.ref a1), .val (.ref a2), .val (.int (0 : Int32)), .val (.int (0 : Int32)), .val .null, .unset] [(.int (0 : Int32))]))
  refine Go.step (fun _ k => XS.ifNo X_1.here hx rfl (hb hby d_jdk_42_method_149_code_5) rfl ((if0 _ _).trans (teq ((by decide) : (0 : Int32) = (0 : Int32))).2) k) ?_
  show Go p e below _ (T_1.setTop (mkF m 8 #[.val (.ref a1), .val (.ref a2), .val (.int (0 : Int32)), .val (.int (0 : Int32)), .val .null, .unset] []))
  refine Go.step (fun _ k => XS.aloadN X_1.here hx rfl (hb hby d_jdk_42_method_149_code_8) rfl rfl k) ?_
  show Go p e below _ (T_1.setTop (mkF m 9 #[.val (.ref a1), .val (.ref a2), .val (.int (0 : Int32)), .val (.int (0 : Int32)), .val .null, .unset] [(.ref a1)]))
  obtain ⟨a_2, T_2, h_2, k1_2, t_2, kb_2, X_2, e_2, E_2, hS_2, hk_2, hZ_2, hown_2, Ex_2, Fc_2, Fv_2, Av_2, lta_2, ltb_2, C_2, Lt_2, -, st_2⟩ := ldcCH X_1 hx hZ hown (wd_35 hw) hwS e_1 hS0 hk0 hEL (by decide) CV0 (vs := []) (z := (0 : Int32)) ⟨by decide, by decide⟩ (by decide) (by decide) (g := (mkF m 9 #[.val (.ref a1), .val (.ref a2), .val (.int (0 : Int32)), .val (.int (0 : Int32)), .val .null, .unset] [(.ref a1)])) rfl (hb hby d_jdk_42_method_149_code_9) (n := 0) (by decide) (by decide) (by decide) (by decide)
  refine Go.step st_2 ?_
  have CR_2 := CHr.trans (CHr.refl CV0) C_2
  have le_2 : h0.size ≤ h_2.size := E_2.1
  have KP_2 := KP0.ext E_2
  have O_2 := hO.ext E_2
  have Sx_2 : Str Z h_2.size h_2 a_2 ([] : List Int32) := ⟨t_2, kb_2, lta_2, ltb_2, Ex_2, Fv_2, Fc_2, Av_2, by decide, by decide⟩
  show Go p e below _ (T_2.setTop (mkF m 11 #[.val (.ref a1), .val (.ref a2), .val (.int (0 : Int32)), .val (.int (0 : Int32)), .val .null, .unset] [(.ref a_2), (.ref a1)]))
  have cp3 := Sx_2
  obtain ⟨t4, kb4, -, -, Ex4, Fv4, Fc4, Av4, hl4, hn4⟩ := cp3
  obtain ⟨T_5, X_5, e_5, st_5⟩ := getF X_2 hx hZ_2 hown_2 (host := "") (Or.inl (wd_33 hw)) Via.refl e_2 Fv4 (g := (mkF m 11 #[.val (.ref a1), .val (.ref a2), .val (.int (0 : Int32)), .val (.int (0 : Int32)), .val .null, .unset] [(.ref a_2), (.ref a1)])) rfl rfl (hb hby d_jdk_42_method_149_code_11)
  refine Go.step st_5 ?_
  show Go p e below _ (T_5.setTop (mkF m 14 #[.val (.ref a1), .val (.ref a2), .val (.int (0 : Int32)), .val (.int (0 : Int32)), .val .null, .unset] [(.ref t4), (.ref a1)]))
  have f6 : Exa Z h_2 a1 "java/lang/String" := (E_a1.ext E_2)
  have f7 : Fld Z h_2 a1 "java/lang/String" "value" "[B" .null := (F_a1v.ext E_2)
  obtain ⟨T_8, h_8, X_8, e_8, W_8, st_8⟩ := putF X_5 hx hZ_2 hown_2 (host := "") (Or.inl (wd_33 hw)) Via.refl e_5 f7 f6 (Or.inr ⟨(wd_34 hw), rfl, hnm⟩) (wd_6 hw) (ty := (.array .byte)) pf_0 rfl rfl (g := (mkF m 14 #[.val (.ref a1), .val (.ref a2), .val (.int (0 : Int32)), .val (.int (0 : Int32)), .val .null, .unset] [(.ref t4), (.ref a1)])) rfl rfl (hb hby d_jdk_42_method_149_code_14)
  refine Go.step st_8 ?_
  have N_8 := Fr.snoc X_8 N0 g_a1
  have C_8 := CHr.wr W_8 (CHr.safe C_2 E_a1.lt Sf_a1) C_2.1
  have CR_8 := CHr.trans CR_2 C_8
  have le_8 : h_2.size ≤ h_8.size := Nat.le_of_eq W_8.size.symm
  have KP_8 := KP_2.wr W_8 (Or.inl (List.mem_of_getElem? (i := 0) rfl))
  have O_8 := O_2.wr W_8 g_a1
  have F_8 : Fld Z h_8 a1 "java/lang/String" "value" "[B" (.ref t4) := f7.same W_8
  show Go p e below _ (T_8.setTop (mkF m 17 #[.val (.ref a1), .val (.ref a2), .val (.int (0 : Int32)), .val (.int (0 : Int32)), .val .null, .unset] []))
  refine Go.step (fun _ k => XS.aloadN X_8.here hx rfl (hb hby d_jdk_42_method_149_code_17) rfl rfl k) ?_
  show Go p e below _ (T_8.setTop (mkF m 18 #[.val (.ref a1), .val (.ref a2), .val (.int (0 : Int32)), .val (.int (0 : Int32)), .val .null, .unset] [(.ref a1)]))
  obtain ⟨a_9, T_9, h_9, k1_9, t_9, kb_9, X_9, e_9, E_9, hS_9, hk_9, hZ_9, hown_9, Ex_9, Fc_9, Fv_9, Av_9, lta_9, ltb_9, C_9, Lt_9, -, st_9⟩ := ldcCH X_8 hx hZ_2 hown_2 (wd_35 hw) hwS e_8 hS_2 (Nat.le_trans hk_2 le_8) hEL (by decide) C_8.1 (vs := []) (z := (0 : Int32)) ⟨by decide, by decide⟩ (by decide) (by decide) (g := (mkF m 18 #[.val (.ref a1), .val (.ref a2), .val (.int (0 : Int32)), .val (.int (0 : Int32)), .val .null, .unset] [(.ref a1)])) rfl (hb hby d_jdk_42_method_149_code_18) (n := 0) (by decide) (by decide) (by decide) (by decide)
  refine Go.step st_9 ?_
  have CR_9 := CHr.trans CR_8 C_9
  have le_9 : h_8.size ≤ h_9.size := E_9.1
  have KP_9 := KP_8.ext E_9
  have O_9 := O_8.ext E_9
  have Sx_9 : Str Z h_9.size h_9 a_9 ([] : List Int32) := ⟨t_9, kb_9, lta_9, ltb_9, Ex_9, Fv_9, Fc_9, Av_9, by decide, by decide⟩
  show Go p e below _ (T_9.setTop (mkF m 20 #[.val (.ref a1), .val (.ref a2), .val (.int (0 : Int32)), .val (.int (0 : Int32)), .val .null, .unset] [(.ref a_9), (.ref a1)]))
  have cp10 := Sx_9
  obtain ⟨t11, kb11, -, -, Ex11, Fv11, Fc11, Av11, hl11, hn11⟩ := cp10
  obtain ⟨T_12, X_12, e_12, st_12⟩ := getF X_9 hx hZ_9 hown_9 (host := "") (Or.inl (wd_31 hw)) Via.refl e_9 Fc11 (g := (mkF m 20 #[.val (.ref a1), .val (.ref a2), .val (.int (0 : Int32)), .val (.int (0 : Int32)), .val .null, .unset] [(.ref a_9), (.ref a1)])) rfl rfl (hb hby d_jdk_42_method_149_code_20)
  refine Go.step st_12 ?_
  show Go p e below _ (T_12.setTop (mkF m 23 #[.val (.ref a1), .val (.ref a2), .val (.int (0 : Int32)), .val (.int (0 : Int32)), .val .null, .unset] [(.int (0 : Int32)), (.ref a1)]))
  have f13 : Exa Z h_9 a1 "java/lang/String" := ((f6.wr W_8).ext E_9)
  have f14 : Fld Z h_9 a1 "java/lang/String" "coder" "B" (.int (0 : Int32)) := (((F_a1c.ext E_2).other W_8 (Or.inr (sn_0 hw))).ext E_9)
  obtain ⟨T_15, h_15, X_15, e_15, W_15, st_15⟩ := putFN X_12 hx hZ_9 hown_9 (wd_31 hw) Via.refl e_12 f14 f13 (Or.inr ⟨(wd_32 hw), rfl, hnm⟩) (wd_6 hw) (ty := .byte) (v' := (.int (0 : Int32))) pf_1 rfl (by decide) (g := (mkF m 23 #[.val (.ref a1), .val (.ref a2), .val (.int (0 : Int32)), .val (.int (0 : Int32)), .val .null, .unset] [(.int (0 : Int32)), (.ref a1)])) rfl rfl (hb hby d_jdk_42_method_149_code_23)
  refine Go.step st_15 ?_
  have N_15 := Fr.snoc X_15 N_8 g_a1
  have C_15 := CHr.wr W_15 (CHr.safe (CHr.trans (CHr.trans C_2 C_8) C_9) E_a1.lt Sf_a1) C_9.1
  have CR_15 := CHr.trans CR_9 C_15
  have le_15 : h_9.size ≤ h_15.size := Nat.le_of_eq W_15.size.symm
  have KP_15 := KP_9.wr W_15 (Or.inl (List.mem_of_getElem? (i := 0) rfl))
  have O_15 := O_9.wr W_15 g_a1
  have F_15 : Fld Z h_15 a1 "java/lang/String" "coder" "B" (.int (0 : Int32)) := f14.same W_15
  show Go p e below _ (T_15.setTop (mkF m 26 #[.val (.ref a1), .val (.ref a2), .val (.int (0 : Int32)), .val (.int (0 : Int32)), .val .null, .unset] []))
  have f16 : Exa Z h_15 a1 "java/lang/String" := (f13.wr W_15)
  have f17 : Fld Z h_15 a1 "java/lang/String" "value" "[B" (.ref t4) := ((F_8.ext E_9).other W_15 (Or.inr (sn_1 hw)))
  have f18 : Arv Z h_15 t4 kb4 .byte (0 : Int32) [] (.int (0 : Int32)) := (((Av4.other W_8 (Ne.symm (Exa.neArv (E_a1.ext E_2) Av4 (wd_6 hw)))).ext E_9).other W_15 (Ne.symm (Exa.neArv (E_a1.ext E_2) Av4 (wd_6 hw))))
  have Sx19 : Str Z h_15.size h_15 a1 ([] : List Int32) := ⟨t4, kb4, f16.lt, f18.lt, f16, f17, F_15, f18, by decide, by decide⟩
  exact Go.ret0W X_15 e_15 hS_9 (Nat.le_trans hk_9 le_15) hZ_9 hEL hh0 CR_15 hx hlk hret (hb hby d_jdk_42_method_149_code_26) (by decide) (by decide) (by rw [e_15]; exact ⟨rfl, N_15, KP_15, Sx19⟩)
--@E
--@C init1e
def Q_init1e (Z : State) (zc : Int32) (kd0 : Addr) (kd1 : Addr) (kd2 : Addr) (kd3 : Addr) (kd4 : Addr) (kd5 : Addr) (kd6 : Addr) (kd7 : Addr) (kd8 : Addr) (kd9 : Addr) (kd10 : Addr) (kd11 : Addr) (kd12 : Addr) (kd13 : Addr) (kd14 : Addr) (kd15 : Addr) (kd16 : Addr) (kd17 : Addr) (a1 : Addr) (a2 : Addr) (k2 : ClassId) (h0 : Heap) (n0 : Nat) (v : Option Value) (h : Heap) (L : List Loc) : Prop := v = none ∧ Fr n0 L ∧ Keep h0 h [a1] ∧ Str Z h.size h a1 ([] : List Int32)
set_option maxRecDepth 65536 in
set_option maxHeartbeats 40000000 in
theorem rm_init1e (l : Launch) (Z : State) (a0 : Array Value) (hw : ∀ d ∈ tables_1, d.before a0 Z = true) (zc : Int32) (kd0 : Addr) (kd1 : Addr) (kd2 : Addr) (kd3 : Addr) (kd4 : Addr) (kd5 : Addr) (kd6 : Addr) (kd7 : Addr) (kd8 : Addr) (kd9 : Addr) (kd10 : Addr) (kd11 : Addr) (kd12 : Addr) (kd13 : Addr) (kd14 : Addr) (kd15 : Addr) (kd16 : Addr) (kd17 : Addr) (a1 : Addr) (a2 : Addr) (k2 : ClassId) (h0 : Heap) (n0 : Nat) (Z0 : n0 ≤ h0.size) (E_a1 : Exa Z h0 a1 "java/lang/String") (F_a1v : Fld Z h0 a1 "java/lang/String" "value" "[B" .null) (F_a1c : Fld Z h0 a1 "java/lang/String" "coder" "B" (.int (0 : Int32))) (g_a1 : n0 ≤ a1) (A_a2 : Arv Z h0 a2 k2 .char (0 : Int32) [] (.int (0 : Int32))) (hSt : St Z zc kd0 kd1 kd2 kd3 kd4 kd5 kd6 kd7 kd8 kd9 kd10 kd11 kd12 kd13 kd14 kd15 kd16 kd17) (hO : Old Z n0 h0) :
    CW l Z EL ({ cls := "java/lang/String", name := "<init>", desc := "([C)V" } : Jvm.MethodName) [(Jvm.Cond.code ({ cls := "java/lang/String", name := "<init>", desc := "([C)V" } : Jvm.MethodName) jdk_42_method_3_code (2 : Nat) (Option.none : Option Jvm.ClassFile.FieldType))] ({ frames := 2, cells := 4, slots := 8, locals := 29 } : Room) #[(.ref a1), (.ref a2)] h0 (Q_init1e Z zc kd0 kd1 kd2 kd3 kd4 kd5 kd6 kd7 kd8 kd9 kd10 kd11 kd12 kd13 kd14 kd15 kd16 kd17 a1 a2 k2 h0 n0) := by
  refine CW.of (L0 := #[.val (.ref a1), .val (.ref a2)]) (plainFor_of_name pn_0) (fun m => by first | (simp [entryFrame, mkF, argsToLocals, Value.category]; done) | rfl) ?_
  intro p e s m below meth c s₁ hx hby hml hret hlk hZ hown hnm X0 e0 hS0 hk0 CV0 hh0
  have hEL := hEL_ (a0 := a0) hw
  have hwS := hwS_ hw
  have N0 := Fr.nil n0
  have KP0 := Keep.refl h0 [a1]
  have hSt_ := hSt
  obtain ⟨S_cs, n_cs, S_kd0, S_kd1, S_kd2, S_kd3, S_kd4, S_kd5, S_kd6, S_kd7, S_kd8, S_kd9, S_kd10, S_kd11, S_kd12, S_kd13, S_kd14, S_kd15, S_kd16, S_kd17, ne_kd0, ne_kd2, ne_kd3, ne_kd4, ne_kd5, ne_kd6, ne_kd7, ne_kd8, ne_kd9, ne_kd10, ne_kd11, ne_kd12, ne_kd13, ne_kd14, ne_kd15, ne_kd16, ne_kd17⟩ := hSt_
  have Sf_a1 : Safe Z EL s.vm h0 a1 := own_safe_null hZ.alike E_a1 F_a1v (wd_6 hw)
  show Go p e below _ (s₁.setTop (mkF m 0 #[.val (.ref a1), .val (.ref a2)] []))
  refine Go.step (fun _ k => XS.aloadN X0.here hx rfl (hb hby d_jdk_42_method_3_code_0) rfl rfl k) ?_
  show Go p e below _ (s₁.setTop (mkF m 1 #[.val (.ref a1), .val (.ref a2)] [(.ref a1)]))
  refine Go.step (fun _ k => XS.aloadN X0.here hx rfl (hb hby d_jdk_42_method_3_code_1) rfl rfl k) ?_
  show Go p e below _ (s₁.setTop (mkF m 2 #[.val (.ref a1), .val (.ref a2)] [(.ref a2), (.ref a1)]))
  refine Go.step (fun _ k => XS.iconst X0.here hx rfl (hb hby d_jdk_42_method_3_code_2) k) ?_
  show Go p e below _ (s₁.setTop (mkF m 3 #[.val (.ref a1), .val (.ref a2)] [(.int (0 : Int32)), (.ref a2), (.ref a1)]))
  refine Go.step (fun _ k => XS.aloadN X0.here hx rfl (hb hby d_jdk_42_method_3_code_3) rfl rfl k) ?_
  show Go p e below _ (s₁.setTop (mkF m 4 #[.val (.ref a1), .val (.ref a2)] [(.ref a2), (.int (0 : Int32)), (.ref a2), (.ref a1)]))
  have cp21 := A_a2
  obtain ⟨cl_20, Ar_20, -, Sz_20, Ng_20, -, -⟩ := cp21
  refine Go.step (fun _ k => X0.arraylength hx (by rw [e0]; exact Ar_20.1) (State.isArrayOf_alike hZ.alike Ar_20.2.1) (g := (mkF m 4 #[.val (.ref a1), .val (.ref a2)] [(.ref a2), (.int (0 : Int32)), (.ref a2), (.ref a1)])) rfl rfl (hb hby d_jdk_42_method_3_code_4) _ k) ?_
  rw [len_of Sz_20 Ng_20]
  show Go p e below _ (s₁.setTop (mkF m 5 #[.val (.ref a1), .val (.ref a2)] [(.int (0 : Int32)), (.int (0 : Int32)), (.ref a2), (.ref a1)]))
  refine Go.step (fun _ k => XS.aconstNull X0.here hx rfl (hb hby d_jdk_42_method_3_code_5) k) ?_
  show Go p e below _ (s₁.setTop (mkF m 6 #[.val (.ref a1), .val (.ref a2)] [.null, (.int (0 : Int32)), (.int (0 : Int32)), (.ref a2), (.ref a1)]))
  obtain ⟨v_22, T_22, L_22, X_22, hQ_22, hS_22, hZ_22, hown_22, C_22, st_22⟩ := goCW X0 hx hZ (y := ({ cls := "java/lang/String", name := "<init>", desc := "([CIILjava/lang/Void;)V" } : Jvm.MethodName)) hown hS0 hk0 rfl (wd_12 hw) (wd_13 hw) (wd_15 hw) (by decide) (backOfSH (W := 0) (rm_init4e l Z a0 hw zc kd0 kd1 kd2 kd3 kd4 kd5 kd6 kd7 kd8 kd9 kd10 kd11 kd12 kd13 kd14 kd15 kd16 kd17 (a1) (a2) h0 n0 (Nat.le_trans Z0 KP0.1) E_a1 F_a1v F_a1c g_a1 hSt hO) hZ (wd_15 hw) (wd_7 hw) (by decide) (by decide) hEL CV0) e0 (g := (mkF m 6 #[.val (.ref a1), .val (.ref a2)] [.null, (.int (0 : Int32)), (.int (0 : Int32)), (.ref a2), (.ref a1)])) rfl (by rw [hml]; rfl) (a := a1) (argsL := [(.ref a2), (.int (0 : Int32)), (.int (0 : Int32)), .null]) (rest := []) rfl (lenOf pd_0 rfl) rfl (by show 2 * 0 + _ ≤ _; exact Nat.le_of_eq rfl) (hb hby d_jdk_42_method_3_code_6) (by decide) (by decide)
  obtain ⟨rfl, Nq_22, K_22, u0_22⟩ := hQ_22
  have N_22 := Fr.app N0 Nq_22
  have CR_22 := CHr.trans (CHr.refl CV0) C_22
  have le_22 : h0.size ≤ T_22.heap.size := K_22.1
  have KP_22 := KP0.trans K_22 (allS (Or.inl (List.mem_of_getElem? (i := 0) rfl)) all0)
  have O_22 := hO.keep K_22 (allS g_a1 all0)
  refine Go.step st_22 ?_
  show Go p e below _ (T_22.setTop (mkF m 9 #[.val (.ref a1), .val (.ref a2)] []))
  exact Go.ret0W X_22 rfl hS_22 (Nat.le_refl _) hZ_22 hEL hh0 CR_22 hx hlk hret (hb hby d_jdk_42_method_3_code_9) (by decide) (by decide) (by exact ⟨rfl, N_22, KP_22, u0_22⟩)
--@E
--@C mk
def Q_mk (Z : State) (zc : Int32) (kd0 : Addr) (kd1 : Addr) (kd2 : Addr) (kd3 : Addr) (kd4 : Addr) (kd5 : Addr) (kd6 : Addr) (kd7 : Addr) (kd8 : Addr) (kd9 : Addr) (kd10 : Addr) (kd11 : Addr) (kd12 : Addr) (kd13 : Addr) (kd14 : Addr) (kd15 : Addr) (kd16 : Addr) (kd17 : Addr) (p1 : Int32) (c0 : Int32) (c1 : Int32) (h0 : Heap) (n0 : Nat) (v : Option Value) (h : Heap) (L : List Loc) : Prop := ∃ (r : Addr), v = some (.ref r) ∧ Fr n0 L ∧ Keep h0 h [] ∧ h0.size ≤ r ∧ Str Z h.size h r (mkL p1 c0 c1)
set_option maxRecDepth 65536 in
set_option maxHeartbeats 40000000 in
theorem rm_mk (l : Launch) (Z : State) (a0 : Array Value) (hw : ∀ d ∈ tables_1, d.before a0 Z = true) (zc : Int32) (kd0 : Addr) (kd1 : Addr) (kd2 : Addr) (kd3 : Addr) (kd4 : Addr) (kd5 : Addr) (kd6 : Addr) (kd7 : Addr) (kd8 : Addr) (kd9 : Addr) (kd10 : Addr) (kd11 : Addr) (kd12 : Addr) (kd13 : Addr) (kd14 : Addr) (kd15 : Addr) (kd16 : Addr) (kd17 : Addr) (p1 : Int32) (c0 : Int32) (c1 : Int32) (h0 : Heap) (n0 : Nat) (Z0 : n0 ≤ h0.size) (l_c0 : (¬ c0 < 0 ∧ ¬ (255 : Int32) < c0)) (l_c1 : (¬ c1 < 0 ∧ ¬ (255 : Int32) < c1)) (hSt : St Z zc kd0 kd1 kd2 kd3 kd4 kd5 kd6 kd7 kd8 kd9 kd10 kd11 kd12 kd13 kd14 kd15 kd16 kd17) (hO : Old Z n0 h0) :
    CW l Z EL ({ cls := "com/example/stubwright/stubwright/idl/TokenIsKeywordPinLaw", name := "mk", desc := "(ICC)Ljava/lang/String;" } : Jvm.MethodName) [(Jvm.Cond.code ({ cls := "com/example/stubwright/stubwright/idl/TokenIsKeywordPinLaw", name := "mk", desc := "(ICC)Ljava/lang/String;" } : Jvm.MethodName) method_3_code (3 : Nat) (Option.some (Jvm.ClassFile.FieldType.object "java/lang/String")))] ({ frames := 4, cells := 6, slots := 12, locals := 66 } : Room) #[(.int p1), (.int c0), (.int c1)] h0 (Q_mk Z zc kd0 kd1 kd2 kd3 kd4 kd5 kd6 kd7 kd8 kd9 kd10 kd11 kd12 kd13 kd14 kd15 kd16 kd17 p1 c0 c1 h0 n0) := by
  refine CW.of (L0 := #[.val (.int p1), .val (.int c0), .val (.int c1)]) (plainFor_of_name pn_1) (fun m => by first | (simp [entryFrame, mkF, argsToLocals, Value.category]; done) | rfl) ?_
  intro p e s m below meth c s₁ hx hby hml hret hlk hZ hown hnm X0 e0 hS0 hk0 CV0 hh0
  have hEL := hEL_ (a0 := a0) hw
  have hwS := hwS_ hw
  have N0 := Fr.nil n0
  have KP0 := Keep.refl h0 []
  have hSt_ := hSt
  obtain ⟨S_cs, n_cs, S_kd0, S_kd1, S_kd2, S_kd3, S_kd4, S_kd5, S_kd6, S_kd7, S_kd8, S_kd9, S_kd10, S_kd11, S_kd12, S_kd13, S_kd14, S_kd15, S_kd16, S_kd17, ne_kd0, ne_kd2, ne_kd3, ne_kd4, ne_kd5, ne_kd6, ne_kd7, ne_kd8, ne_kd9, ne_kd10, ne_kd11, ne_kd12, ne_kd13, ne_kd14, ne_kd15, ne_kd16, ne_kd17⟩ := hSt_
  show Go p e below _ (s₁.setTop (mkF m 0 #[.val (.int p1), .val (.int c0), .val (.int c1)] []))
  refine Go.step (fun _ k => XS.iloadN X0.here hx rfl (hb hby d_method_3_code_0) rfl  k) ?_
  show Go p e below _ (s₁.setTop (mkF m 1 #[.val (.int p1), .val (.int c0), .val (.int c1)] [(.int p1)]))
  by_cases u0 : p1 = (0 : Int32)
  · skip
    refine Go.step (fun _ k => XS.ifNo X0.here hx rfl (hb hby d_method_3_code_1) rfl ((if0 _ _).trans (teq u0).2) k) ?_
    show Go p e below _ (s₁.setTop (mkF m 4 #[.val (.int p1), .val (.int c0), .val (.int c1)] []))
    obtain ⟨T_23, h_23, X_23, e_23, E_23, A_23, D_23, -, st_23⟩ := newO X0 hx hZ hown (wd_5 hw) (wd_6 hw) (wd_7 hw) e0 (g := (mkF m 4 #[.val (.int p1), .val (.int c0), .val (.int c1)] [])) rfl (hb hby d_method_3_code_4) (by decide) (by decide)
    obtain ⟨b23, q_23⟩ : ∃ z, z = h0.size := ⟨_, rfl⟩
    rw [← q_23] at A_23 D_23 st_23
    refine Go.step st_23 ?_
    have C_23 := CHr.ext E_23 CV0
    have CR_23 := CHr.trans (CHr.refl CV0) C_23
    have le_23 : h0.size ≤ h_23.size := E_23.1
    have KP_23 := KP0.ext E_23
    have O_23 := hO.ext E_23
    have ge_23 : h0.size ≤ b23 := Nat.le_of_eq q_23.symm
    have sz_b23 : h0.size ≤ b23 := Nat.le_trans (Nat.le_refl _) ge_23
    have g_b23 : n0 ≤ b23 := Nat.le_trans Z0 sz_b23
    have F_23_32 : Fld Z h_23 b23 "java/lang/String" "coder" "B" (.int (0 : Int32)) := D_23 (Or.inr (wd_32 hw)) (ty := .byte) pf_1
    have F_23_34 : Fld Z h_23 b23 "java/lang/String" "value" "[B" .null := D_23 (Or.inr (wd_34 hw)) (ty := (.array .byte)) pf_0
    have Sf_b23 := Safe.ext E_23 CV0 (Safe.new ge_23)
    show Go p e below _ (T_23.setTop (mkF m 7 #[.val (.int p1), .val (.int c0), .val (.int c1)] [(.ref b23)]))
    refine Go.step (fun _ k => XS.dup X_23.here hx rfl (hb hby d_method_3_code_7) rfl rfl k) ?_
    show Go p e below _ (T_23.setTop (mkF m 8 #[.val (.int p1), .val (.int c0), .val (.int c1)] [(.ref b23), (.ref b23)]))
    refine Go.step (fun _ k => XS.iconst X_23.here hx rfl (hb hby d_method_3_code_8) k) ?_
    show Go p e below _ (T_23.setTop (mkF m 9 #[.val (.int p1), .val (.int c0), .val (.int c1)] [(.int (0 : Int32)), (.ref b23), (.ref b23)]))
    obtain ⟨T_24, h_24, k_24, X_24, e_24, E_24, A_24, st_24⟩ := newP X_23 hx hZ (aty := .char) (wd_8 hw) e_23 (g := (mkF m 9 #[.val (.int p1), .val (.int c0), .val (.int c1)] [(.int (0 : Int32)), (.ref b23), (.ref b23)])) rfl (hb hby d_method_3_code_9) rfl (by decide) (cap := 0) (by decide) (by decide) (by decide) (by decide)
    obtain ⟨b24, q_24⟩ : ∃ z, z = h_23.size := ⟨_, rfl⟩
    rw [← q_24] at A_24 st_24
    refine Go.step st_24 ?_
    have C_24 := CHr.ext E_24 C_23.1
    have CR_24 := CHr.trans CR_23 C_24
    have le_24 : h_23.size ≤ h_24.size := E_24.1
    have KP_24 := KP_23.ext E_24
    have O_24 := O_23.ext E_24
    have ge_24 : h_23.size ≤ b24 := Nat.le_of_eq q_24.symm
    have sz_b24 : h0.size ≤ b24 := Nat.le_trans le_23 ge_24
    have g_b24 : n0 ≤ b24 := Nat.le_trans Z0 sz_b24
    have V_24 : Arv Z h_24 b24 k_24 .char (0 : Int32) [] (.int (0 : Int32)) := Arv.new A_24 (by decide)
    have Sf_b24 := Safe.ext E_24 C_23.1 (Safe.new ge_24)
    show Go p e below _ (T_24.setTop (mkF m 11 #[.val (.int p1), .val (.int c0), .val (.int c1)] [(.ref b24), (.ref b23), (.ref b23)]))
    have f25 : Exa Z h_24 b23 "java/lang/String" := (A_23.ext E_24)
    have f26 : Fld Z h_24 b23 "java/lang/String" "value" "[B" .null := (F_23_34.ext E_24)
    have f27 : Fld Z h_24 b23 "java/lang/String" "coder" "B" (.int (0 : Int32)) := (F_23_32.ext E_24)
    obtain ⟨v_28, T_28, L_28, X_28, hQ_28, hS_28, hZ_28, hown_28, C_28, st_28⟩ := goCW X_24 hx hZ (y := ({ cls := "java/lang/String", name := "<init>", desc := "([C)V" } : Jvm.MethodName)) hown hS0 (Nat.le_trans hk0 (Nat.le_trans le_23 le_24)) rfl (wd_9 hw) (wd_10 hw) (wd_11 hw) (by decide) (backOfSH (W := 1) (rm_init1e l Z a0 hw zc kd0 kd1 kd2 kd3 kd4 kd5 kd6 kd7 kd8 kd9 kd10 kd11 kd12 kd13 kd14 kd15 kd16 kd17 (b23) (b24) (k_24) h_24 n0 (Nat.le_trans Z0 KP_24.1) f25 f26 f27 g_b23 V_24 hSt O_24) hZ (wd_11 hw) (wd_7 hw) (by decide) (by decide) hEL C_24.1) e_24 (g := (mkF m 11 #[.val (.int p1), .val (.int c0), .val (.int c1)] [(.ref b24), (.ref b23), (.ref b23)])) rfl (by rw [hml]; rfl) (a := b23) (argsL := [(.ref b24)]) (rest := [(.ref b23)]) rfl (lenOf pd_1 rfl) rfl (by show 2 * 0 + _ ≤ _; exact Nat.le_of_eq rfl) (hb hby d_method_3_code_11) (by decide) (by decide)
    obtain ⟨rfl, Nq_28, K_28, u0_28⟩ := hQ_28
    have N_28 := Fr.app N0 Nq_28
    have CR_28 := CHr.trans CR_24 C_28
    have le_28 : h_24.size ≤ T_28.heap.size := K_28.1
    have KP_28 := KP_24.trans K_28 (allS (Or.inr sz_b23) all0)
    have O_28 := O_24.keep K_28 (allS g_b23 all0)
    refine Go.step st_28 ?_
    show Go p e below _ (T_28.setTop (mkF m 14 #[.val (.int p1), .val (.int c0), .val (.int c1)] [(.ref b23)]))
    exact Go.retVW X_28 rfl hS_28 (Nat.le_refl _) hZ_28 hEL hh0 CR_28 hx hlk hret rfl (Or.inr (Or.inr (Or.inr (Or.inr ⟨rfl, rfl, rfl⟩)))) (hb hby d_method_3_code_14) (by decide) (by decide) (by exact ⟨b23, rfl, N_28, KP_28, sz_b23, (by rw [mkL, if_pos u0]; exact u0_28)⟩)
  · skip
    refine Go.step (fun _ k => XS.ifYes X0.here hx rfl (pc0 := 1) (pc' := 15) rfl (hb hby d_method_3_code_1) rfl ((if0 _ _).trans (feq u0).2) (by decide) (by decide) k) ?_
    show Go p e below _ (s₁.setTop (mkF m 15 #[.val (.int p1), .val (.int c0), .val (.int c1)] []))
    refine Go.step (fun _ k => XS.iloadN X0.here hx rfl (hb hby d_method_3_code_15) rfl  k) ?_
    show Go p e below _ (s₁.setTop (mkF m 16 #[.val (.int p1), .val (.int c0), .val (.int c1)] [(.int p1)]))
    refine Go.step (fun _ k => XS.iconst X0.here hx rfl (hb hby d_method_3_code_16) k) ?_
    show Go p e below _ (s₁.setTop (mkF m 17 #[.val (.int p1), .val (.int c0), .val (.int c1)] [(.int (1 : Int32)), (.int p1)]))
    by_cases u1 : p1 = (1 : Int32)
    · skip
      refine Go.step (fun _ k => XS.icmpNo X0.here hx rfl (hb hby d_method_3_code_17) rfl (teq u1).2 k) ?_
      show Go p e below _ (s₁.setTop (mkF m 20 #[.val (.int p1), .val (.int c0), .val (.int c1)] []))
      obtain ⟨T_29, h_29, X_29, e_29, E_29, A_29, D_29, -, st_29⟩ := newO X0 hx hZ hown (wd_5 hw) (wd_6 hw) (wd_7 hw) e0 (g := (mkF m 20 #[.val (.int p1), .val (.int c0), .val (.int c1)] [])) rfl (hb hby d_method_3_code_20) (by decide) (by decide)
      obtain ⟨b29, q_29⟩ : ∃ z, z = h0.size := ⟨_, rfl⟩
      rw [← q_29] at A_29 D_29 st_29
      refine Go.step st_29 ?_
      have C_29 := CHr.ext E_29 CV0
      have CR_29 := CHr.trans (CHr.refl CV0) C_29
      have le_29 : h0.size ≤ h_29.size := E_29.1
      have KP_29 := KP0.ext E_29
      have O_29 := hO.ext E_29
      have ge_29 : h0.size ≤ b29 := Nat.le_of_eq q_29.symm
      have sz_b29 : h0.size ≤ b29 := Nat.le_trans (Nat.le_refl _) ge_29
      have g_b29 : n0 ≤ b29 := Nat.le_trans Z0 sz_b29
      have F_29_32 : Fld Z h_29 b29 "java/lang/String" "coder" "B" (.int (0 : Int32)) := D_29 (Or.inr (wd_32 hw)) (ty := .byte) pf_1
      have F_29_34 : Fld Z h_29 b29 "java/lang/String" "value" "[B" .null := D_29 (Or.inr (wd_34 hw)) (ty := (.array .byte)) pf_0
      have Sf_b29 := Safe.ext E_29 CV0 (Safe.new ge_29)
      show Go p e below _ (T_29.setTop (mkF m 23 #[.val (.int p1), .val (.int c0), .val (.int c1)] [(.ref b29)]))
      refine Go.step (fun _ k => XS.dup X_29.here hx rfl (hb hby d_method_3_code_23) rfl rfl k) ?_
      show Go p e below _ (T_29.setTop (mkF m 24 #[.val (.int p1), .val (.int c0), .val (.int c1)] [(.ref b29), (.ref b29)]))
      refine Go.step (fun _ k => XS.iconst X_29.here hx rfl (hb hby d_method_3_code_24) k) ?_
      show Go p e below _ (T_29.setTop (mkF m 25 #[.val (.int p1), .val (.int c0), .val (.int c1)] [(.int (1 : Int32)), (.ref b29), (.ref b29)]))
      obtain ⟨T_30, h_30, k_30, X_30, e_30, E_30, A_30, st_30⟩ := newP X_29 hx hZ (aty := .char) (wd_8 hw) e_29 (g := (mkF m 25 #[.val (.int p1), .val (.int c0), .val (.int c1)] [(.int (1 : Int32)), (.ref b29), (.ref b29)])) rfl (hb hby d_method_3_code_25) rfl (by decide) (cap := 1) (by decide) (by decide) (by decide) (by decide)
      obtain ⟨b30, q_30⟩ : ∃ z, z = h_29.size := ⟨_, rfl⟩
      rw [← q_30] at A_30 st_30
      refine Go.step st_30 ?_
      have C_30 := CHr.ext E_30 C_29.1
      have CR_30 := CHr.trans CR_29 C_30
      have le_30 : h_29.size ≤ h_30.size := E_30.1
      have KP_30 := KP_29.ext E_30
      have O_30 := O_29.ext E_30
      have ge_30 : h_29.size ≤ b30 := Nat.le_of_eq q_30.symm
      have sz_b30 : h0.size ≤ b30 := Nat.le_trans le_29 ge_30
      have g_b30 : n0 ≤ b30 := Nat.le_trans Z0 sz_b30
      have V_30 : Arv Z h_30 b30 k_30 .char (1 : Int32) [(.int (0 : Int32))] (.int (0 : Int32)) := (Arv.new A_30 (by decide)).pad (pad_rep [] (.int (0 : Int32)) 1)
      have Sf_b30 := Safe.ext E_30 C_29.1 (Safe.new ge_30)
      show Go p e below _ (T_30.setTop (mkF m 27 #[.val (.int p1), .val (.int c0), .val (.int c1)] [(.ref b30), (.ref b29), (.ref b29)]))
      refine Go.step (fun _ k => XS.dup X_30.here hx rfl (hb hby d_method_3_code_27) rfl rfl k) ?_
      show Go p e below _ (T_30.setTop (mkF m 28 #[.val (.int p1), .val (.int c0), .val (.int c1)] [(.ref b30), (.ref b30), (.ref b29), (.ref b29)]))
      refine Go.step (fun _ k => XS.iconst X_30.here hx rfl (hb hby d_method_3_code_28) k) ?_
      show Go p e below _ (T_30.setTop (mkF m 29 #[.val (.int p1), .val (.int c0), .val (.int c1)] [(.int (0 : Int32)), (.ref b30), (.ref b30), (.ref b29), (.ref b29)]))
      refine Go.step (fun _ k => XS.iloadN X_30.here hx rfl (hb hby d_method_3_code_29) rfl  k) ?_
      show Go p e below _ (T_30.setTop (mkF m 30 #[.val (.int p1), .val (.int c0), .val (.int c1)] [(.int c0), (.int (0 : Int32)), (.ref b30), (.ref b30), (.ref b29), (.ref b29)]))
      have cp32 := V_30
      obtain ⟨cl_31, Ar_31, ck_31, Sz_31, Ng_31, Hs_31, Gs_31⟩ := cp32
      have hin_31 : ¬ ((0 : Int32) < 0 ∨ cl_31.slots.size ≤ ((0 : Int32)).toNatClampNeg) := inb_of Sz_31 ⟨by decide, by decide⟩
      obtain ⟨T_31, h_31, X_31, e_31, W_31, st_31⟩ := stC X_30 hx hZ e_30 Ar_31 (j := (0 : Int32)) hin_31 (g := (mkF m 30 #[.val (.int p1), .val (.int c0), .val (.int c1)] [(.int c0), (.int (0 : Int32)), (.ref b30), (.ref b30), (.ref b29), (.ref b29)])) rfl rfl (hb hby d_method_3_code_30)
      refine Go.step st_31 ?_
      have N_31 := Fr.snoc X_31 N0 g_b30
      have C_31 := CHr.wr W_31 (Safe.arv hZ.alike V_30 (by decide)) C_30.1
      have CR_31 := CHr.trans CR_30 C_31
      have le_31 : h_30.size ≤ h_31.size := Nat.le_of_eq W_31.size.symm
      have KP_31 := KP_30.wr W_31 (Or.inr sz_b30)
      have O_31 := O_30.wr W_31 g_b30
      have V_31 : Arv Z h_31 b30 k_30 .char (1 : Int32) [(.int c0)] (.int (0 : Int32)) := by
        have q := Arv.set Ar_31 ck_31 Sz_31 Ng_31 Hs_31 Gs_31 (fits_nar_char _) W_31 0 rfl (Nat.le_of_ble_eq_true rfl)
        rw [nar_lat l_c0] at q; exact q
      show Go p e below _ (T_31.setTop (mkF m 31 #[.val (.int p1), .val (.int c0), .val (.int c1)] [(.ref b30), (.ref b29), (.ref b29)]))
      have f33 : Exa Z h_31 b29 "java/lang/String" := ((A_29.ext E_30).wr W_31)
      have f34 : Fld Z h_31 b29 "java/lang/String" "value" "[B" .null := ((F_29_34.ext E_30).other W_31 (Or.inl (Nat.ne_of_lt (Nat.lt_of_lt_of_le A_29.lt (Nat.le_trans (Nat.le_refl _) ge_30)))))
      have f35 : Fld Z h_31 b29 "java/lang/String" "coder" "B" (.int (0 : Int32)) := ((F_29_32.ext E_30).other W_31 (Or.inl (Nat.ne_of_lt (Nat.lt_of_lt_of_le A_29.lt (Nat.le_trans (Nat.le_refl _) ge_30)))))
      have hp36 : ∀ c ∈ ([c0] : List Int32), ¬ c < 0 ∧ ¬ (255 : Int32) < c := (latc l_c0 lat0)
      obtain ⟨v_37, T_37, L_37, X_37, hQ_37, st_37⟩ := goC X_31 hx hZ (y := ({ cls := "java/lang/String", name := "<init>", desc := "([C)V" } : Jvm.MethodName)) hown rfl (wd_9 hw) (wd_10 hw) (wd_11 hw) (by decide) (StrChars.Road.backV (W := 1) hZ (sw_words hw) (kI := 4) (wd_6 hw) (cs := ([c0] : List Int32)) (bs := ([c0] : List Int32).map (fun c => c.toInt8.toInt32)) (n := 1) g_b29 (Nat.le_trans Z0 KP_31.1) f33 f34 f35 V_31 (S_cs.ext O_31.2) n_cs rfl rfl (by decide) (by decide) hp36 rfl (by decide) (by decide)) e_31 (g := (mkF m 31 #[.val (.int p1), .val (.int c0), .val (.int c1)] [(.ref b30), (.ref b29), (.ref b29)])) rfl (by rw [hml]; rfl) (a := b29) (argsL := [(.ref b30)]) (rest := [(.ref b29)]) rfl (lenOf pd_1 rfl) rfl (by show 2 * 0 + _ ≤ _; exact Nat.le_of_eq rfl) (hb hby d_method_3_code_31) (by decide) (by decide)
      obtain ⟨rfl, Nq_37, K_37, Ex_37, Fc_37, t_37, kb_37, -, gt_37, -, Fv_37, Av_37⟩ := hQ_37
      have N_37 := Fr.app N_31 Nq_37
      have C_37 := CHr.keep K_37 (sfS (CHr.safe (CHr.trans C_30 C_31) A_29.lt Sf_b29) sf0) C_31.1
      have CR_37 := CHr.trans CR_31 C_37
      have le_37 : h_31.size ≤ T_37.heap.size := K_37.1
      have KP_37 := KP_31.trans K_37 (allS (Or.inr sz_b29) all0)
      have O_37 := O_31.keep K_37 (allS g_b29 all0)
      have Sx_37 : Str Z (T_37.heap).size (T_37.heap) b29 ([c0] : List Int32) := ⟨t_37, kb_37, Ex_37.lt, Av_37.lt, Ex_37, Fv_37, Fc_37, Av_37, hp36, Nat.le_of_ble_eq_true rfl⟩
      refine Go.step st_37 ?_
      show Go p e below _ (T_37.setTop (mkF m 34 #[.val (.int p1), .val (.int c0), .val (.int c1)] [(.ref b29)]))
      exact Go.retVW X_37 rfl hS0 (Nat.le_trans hk0 (Nat.le_trans le_29 (Nat.le_trans le_30 (Nat.le_trans le_31 le_37)))) hZ hEL hh0 CR_37 hx hlk hret rfl (Or.inr (Or.inr (Or.inr (Or.inr ⟨rfl, rfl, rfl⟩)))) (hb hby d_method_3_code_34) (by decide) (by decide) (by exact ⟨b29, rfl, N_37, KP_37, sz_b29, (by rw [mkL, if_neg u0, if_pos u1]; exact Sx_37)⟩)
    · skip
      refine Go.step (fun _ k => XS.icmpYes X0.here hx rfl (pc0 := 17) (pc' := 35) rfl (hb hby d_method_3_code_17) rfl (feq u1).2 (by decide) (by decide) k) ?_
      show Go p e below _ (s₁.setTop (mkF m 35 #[.val (.int p1), .val (.int c0), .val (.int c1)] []))
      obtain ⟨T_38, h_38, X_38, e_38, E_38, A_38, D_38, -, st_38⟩ := newO X0 hx hZ hown (wd_5 hw) (wd_6 hw) (wd_7 hw) e0 (g := (mkF m 35 #[.val (.int p1), .val (.int c0), .val (.int c1)] [])) rfl (hb hby d_method_3_code_35) (by decide) (by decide)
      obtain ⟨b38, q_38⟩ : ∃ z, z = h0.size := ⟨_, rfl⟩
      rw [← q_38] at A_38 D_38 st_38
      refine Go.step st_38 ?_
      have C_38 := CHr.ext E_38 CV0
      have CR_38 := CHr.trans (CHr.refl CV0) C_38
      have le_38 : h0.size ≤ h_38.size := E_38.1
      have KP_38 := KP0.ext E_38
      have O_38 := hO.ext E_38
      have ge_38 : h0.size ≤ b38 := Nat.le_of_eq q_38.symm
      have sz_b38 : h0.size ≤ b38 := Nat.le_trans (Nat.le_refl _) ge_38
      have g_b38 : n0 ≤ b38 := Nat.le_trans Z0 sz_b38
      have F_38_32 : Fld Z h_38 b38 "java/lang/String" "coder" "B" (.int (0 : Int32)) := D_38 (Or.inr (wd_32 hw)) (ty := .byte) pf_1
      have F_38_34 : Fld Z h_38 b38 "java/lang/String" "value" "[B" .null := D_38 (Or.inr (wd_34 hw)) (ty := (.array .byte)) pf_0
      have Sf_b38 := Safe.ext E_38 CV0 (Safe.new ge_38)
      show Go p e below _ (T_38.setTop (mkF m 38 #[.val (.int p1), .val (.int c0), .val (.int c1)] [(.ref b38)]))
      refine Go.step (fun _ k => XS.dup X_38.here hx rfl (hb hby d_method_3_code_38) rfl rfl k) ?_
      show Go p e below _ (T_38.setTop (mkF m 39 #[.val (.int p1), .val (.int c0), .val (.int c1)] [(.ref b38), (.ref b38)]))
      refine Go.step (fun _ k => XS.iconst X_38.here hx rfl (hb hby d_method_3_code_39) k) ?_
      show Go p e below _ (T_38.setTop (mkF m 40 #[.val (.int p1), .val (.int c0), .val (.int c1)] [(.int (2 : Int32)), (.ref b38), (.ref b38)]))
      obtain ⟨T_39, h_39, k_39, X_39, e_39, E_39, A_39, st_39⟩ := newP X_38 hx hZ (aty := .char) (wd_8 hw) e_38 (g := (mkF m 40 #[.val (.int p1), .val (.int c0), .val (.int c1)] [(.int (2 : Int32)), (.ref b38), (.ref b38)])) rfl (hb hby d_method_3_code_40) rfl (by decide) (cap := 2) (by decide) (by decide) (by decide) (by decide)
      obtain ⟨b39, q_39⟩ : ∃ z, z = h_38.size := ⟨_, rfl⟩
      rw [← q_39] at A_39 st_39
      refine Go.step st_39 ?_
      have C_39 := CHr.ext E_39 C_38.1
      have CR_39 := CHr.trans CR_38 C_39
      have le_39 : h_38.size ≤ h_39.size := E_39.1
      have KP_39 := KP_38.ext E_39
      have O_39 := O_38.ext E_39
      have ge_39 : h_38.size ≤ b39 := Nat.le_of_eq q_39.symm
      have sz_b39 : h0.size ≤ b39 := Nat.le_trans le_38 ge_39
      have g_b39 : n0 ≤ b39 := Nat.le_trans Z0 sz_b39
      have V_39 : Arv Z h_39 b39 k_39 .char (2 : Int32) [(.int (0 : Int32)), (.int (0 : Int32))] (.int (0 : Int32)) := (Arv.new A_39 (by decide)).pad (pad_rep [] (.int (0 : Int32)) 2)
      have Sf_b39 := Safe.ext E_39 C_38.1 (Safe.new ge_39)
      show Go p e below _ (T_39.setTop (mkF m 42 #[.val (.int p1), .val (.int c0), .val (.int c1)] [(.ref b39), (.ref b38), (.ref b38)]))
      refine Go.step (fun _ k => XS.dup X_39.here hx rfl (hb hby d_method_3_code_42) rfl rfl k) ?_
      show Go p e below _ (T_39.setTop (mkF m 43 #[.val (.int p1), .val (.int c0), .val (.int c1)] [(.ref b39), (.ref b39), (.ref b38), (.ref b38)]))
      refine Go.step (fun _ k => XS.iconst X_39.here hx rfl (hb hby d_method_3_code_43) k) ?_
      show Go p e below _ (T_39.setTop (mkF m 44 #[.val (.int p1), .val (.int c0), .val (.int c1)] [(.int (0 : Int32)), (.ref b39), (.ref b39), (.ref b38), (.ref b38)]))
      refine Go.step (fun _ k => XS.iloadN X_39.here hx rfl (hb hby d_method_3_code_44) rfl  k) ?_
      show Go p e below _ (T_39.setTop (mkF m 45 #[.val (.int p1), .val (.int c0), .val (.int c1)] [(.int c0), (.int (0 : Int32)), (.ref b39), (.ref b39), (.ref b38), (.ref b38)]))
      have cp41 := V_39
      obtain ⟨cl_40, Ar_40, ck_40, Sz_40, Ng_40, Hs_40, Gs_40⟩ := cp41
      have hin_40 : ¬ ((0 : Int32) < 0 ∨ cl_40.slots.size ≤ ((0 : Int32)).toNatClampNeg) := inb_of Sz_40 ⟨by decide, by decide⟩
      obtain ⟨T_40, h_40, X_40, e_40, W_40, st_40⟩ := stC X_39 hx hZ e_39 Ar_40 (j := (0 : Int32)) hin_40 (g := (mkF m 45 #[.val (.int p1), .val (.int c0), .val (.int c1)] [(.int c0), (.int (0 : Int32)), (.ref b39), (.ref b39), (.ref b38), (.ref b38)])) rfl rfl (hb hby d_method_3_code_45)
      refine Go.step st_40 ?_
      have N_40 := Fr.snoc X_40 N0 g_b39
      have C_40 := CHr.wr W_40 (Safe.arv hZ.alike V_39 (by decide)) C_39.1
      have CR_40 := CHr.trans CR_39 C_40
      have le_40 : h_39.size ≤ h_40.size := Nat.le_of_eq W_40.size.symm
      have KP_40 := KP_39.wr W_40 (Or.inr sz_b39)
      have O_40 := O_39.wr W_40 g_b39
      have V_40 : Arv Z h_40 b39 k_39 .char (2 : Int32) [(.int c0), (.int (0 : Int32))] (.int (0 : Int32)) := by
        have q := Arv.set Ar_40 ck_40 Sz_40 Ng_40 Hs_40 Gs_40 (fits_nar_char _) W_40 0 rfl (Nat.le_of_ble_eq_true rfl)
        rw [nar_lat l_c0] at q; exact q
      show Go p e below _ (T_40.setTop (mkF m 46 #[.val (.int p1), .val (.int c0), .val (.int c1)] [(.ref b39), (.ref b38), (.ref b38)]))
      refine Go.step (fun _ k => XS.dup X_40.here hx rfl (hb hby d_method_3_code_46) rfl rfl k) ?_
      show Go p e below _ (T_40.setTop (mkF m 47 #[.val (.int p1), .val (.int c0), .val (.int c1)] [(.ref b39), (.ref b39), (.ref b38), (.ref b38)]))
      refine Go.step (fun _ k => XS.iconst X_40.here hx rfl (hb hby d_method_3_code_47) k) ?_
      show Go p e below _ (T_40.setTop (mkF m 48 #[.val (.int p1), .val (.int c0), .val (.int c1)] [(.int (1 : Int32)), (.ref b39), (.ref b39), (.ref b38), (.ref b38)]))
      refine Go.step (fun _ k => XS.iloadN X_40.here hx rfl (hb hby d_method_3_code_48) rfl  k) ?_
      show Go p e below _ (T_40.setTop (mkF m 49 #[.val (.int p1), .val (.int c0), .val (.int c1)] [(.int c1), (.int (1 : Int32)), (.ref b39), (.ref b39), (.ref b38), (.ref b38)]))
      have cp43 := V_40
      obtain ⟨cl_42, Ar_42, ck_42, Sz_42, Ng_42, Hs_42, Gs_42⟩ := cp43
      have hin_42 : ¬ ((1 : Int32) < 0 ∨ cl_42.slots.size ≤ ((1 : Int32)).toNatClampNeg) := inb_of Sz_42 ⟨by decide, by decide⟩
      obtain ⟨T_42, h_42, X_42, e_42, W_42, st_42⟩ := stC X_40 hx hZ e_40 Ar_42 (j := (1 : Int32)) hin_42 (g := (mkF m 49 #[.val (.int p1), .val (.int c0), .val (.int c1)] [(.int c1), (.int (1 : Int32)), (.ref b39), (.ref b39), (.ref b38), (.ref b38)])) rfl rfl (hb hby d_method_3_code_49)
      refine Go.step st_42 ?_
      have N_42 := Fr.snoc X_42 N_40 g_b39
      have C_42 := CHr.wr W_42 (Safe.arv hZ.alike V_40 (by decide)) C_40.1
      have CR_42 := CHr.trans CR_40 C_42
      have le_42 : h_40.size ≤ h_42.size := Nat.le_of_eq W_42.size.symm
      have KP_42 := KP_40.wr W_42 (Or.inr sz_b39)
      have O_42 := O_40.wr W_42 g_b39
      have V_42 : Arv Z h_42 b39 k_39 .char (2 : Int32) [(.int c0), (.int c1)] (.int (0 : Int32)) := by
        have q := Arv.set Ar_42 ck_42 Sz_42 Ng_42 Hs_42 Gs_42 (fits_nar_char _) W_42 1 rfl (Nat.le_of_ble_eq_true rfl)
        rw [nar_lat l_c1] at q; exact q
      show Go p e below _ (T_42.setTop (mkF m 50 #[.val (.int p1), .val (.int c0), .val (.int c1)] [(.ref b39), (.ref b38), (.ref b38)]))
      have f44 : Exa Z h_42 b38 "java/lang/String" := (((A_38.ext E_39).wr W_40).wr W_42)
      have f45 : Fld Z h_42 b38 "java/lang/String" "value" "[B" .null := (((F_38_34.ext E_39).other W_40 (Or.inl (Nat.ne_of_lt (Nat.lt_of_lt_of_le A_38.lt (Nat.le_trans (Nat.le_refl _) ge_39))))).other W_42 (Or.inl (Nat.ne_of_lt (Nat.lt_of_lt_of_le A_38.lt (Nat.le_trans (Nat.le_refl _) ge_39)))))
      have f46 : Fld Z h_42 b38 "java/lang/String" "coder" "B" (.int (0 : Int32)) := (((F_38_32.ext E_39).other W_40 (Or.inl (Nat.ne_of_lt (Nat.lt_of_lt_of_le A_38.lt (Nat.le_trans (Nat.le_refl _) ge_39))))).other W_42 (Or.inl (Nat.ne_of_lt (Nat.lt_of_lt_of_le A_38.lt (Nat.le_trans (Nat.le_refl _) ge_39)))))
      have hp47 : ∀ c ∈ ([c0, c1] : List Int32), ¬ c < 0 ∧ ¬ (255 : Int32) < c := (latc l_c0 (latc l_c1 lat0))
      obtain ⟨v_48, T_48, L_48, X_48, hQ_48, st_48⟩ := goC X_42 hx hZ (y := ({ cls := "java/lang/String", name := "<init>", desc := "([C)V" } : Jvm.MethodName)) hown rfl (wd_9 hw) (wd_10 hw) (wd_11 hw) (by decide) (StrChars.Road.backV (W := 1) hZ (sw_words hw) (kI := 4) (wd_6 hw) (cs := ([c0, c1] : List Int32)) (bs := ([c0, c1] : List Int32).map (fun c => c.toInt8.toInt32)) (n := 2) g_b38 (Nat.le_trans Z0 KP_42.1) f44 f45 f46 V_42 (S_cs.ext O_42.2) n_cs rfl rfl (by decide) (by decide) hp47 rfl (by decide) (by decide)) e_42 (g := (mkF m 50 #[.val (.int p1), .val (.int c0), .val (.int c1)] [(.ref b39), (.ref b38), (.ref b38)])) rfl (by rw [hml]; rfl) (a := b38) (argsL := [(.ref b39)]) (rest := [(.ref b38)]) rfl (lenOf pd_1 rfl) rfl (by show 2 * 0 + _ ≤ _; exact Nat.le_of_eq rfl) (hb hby d_method_3_code_50) (by decide) (by decide)
      obtain ⟨rfl, Nq_48, K_48, Ex_48, Fc_48, t_48, kb_48, -, gt_48, -, Fv_48, Av_48⟩ := hQ_48
      have N_48 := Fr.app N_42 Nq_48
      have C_48 := CHr.keep K_48 (sfS (CHr.safe (CHr.trans (CHr.trans C_39 C_40) C_42) A_38.lt Sf_b38) sf0) C_42.1
      have CR_48 := CHr.trans CR_42 C_48
      have le_48 : h_42.size ≤ T_48.heap.size := K_48.1
      have KP_48 := KP_42.trans K_48 (allS (Or.inr sz_b38) all0)
      have O_48 := O_42.keep K_48 (allS g_b38 all0)
      have Sx_48 : Str Z (T_48.heap).size (T_48.heap) b38 ([c0, c1] : List Int32) := ⟨t_48, kb_48, Ex_48.lt, Av_48.lt, Ex_48, Fv_48, Fc_48, Av_48, hp47, Nat.le_of_ble_eq_true rfl⟩
      refine Go.step st_48 ?_
      show Go p e below _ (T_48.setTop (mkF m 53 #[.val (.int p1), .val (.int c0), .val (.int c1)] [(.ref b38)]))
      exact Go.retVW X_48 rfl hS0 (Nat.le_trans hk0 (Nat.le_trans le_38 (Nat.le_trans le_39 (Nat.le_trans le_40 (Nat.le_trans le_42 le_48))))) hZ hEL hh0 CR_48 hx hlk hret rfl (Or.inr (Or.inr (Or.inr (Or.inr ⟨rfl, rfl, rfl⟩)))) (hb hby d_method_3_code_53) (by decide) (by decide) (by exact ⟨b38, rfl, N_48, KP_48, sz_b38, (by rw [mkL, if_neg u0, if_neg u1]; exact Sx_48)⟩)
--@E
--@C reqNN
def Q_reqNN (Z : State) (zc : Int32) (kd0 : Addr) (kd1 : Addr) (kd2 : Addr) (kd3 : Addr) (kd4 : Addr) (kd5 : Addr) (kd6 : Addr) (kd7 : Addr) (kd8 : Addr) (kd9 : Addr) (kd10 : Addr) (kd11 : Addr) (kd12 : Addr) (kd13 : Addr) (kd14 : Addr) (kd15 : Addr) (kd16 : Addr) (kd17 : Addr) (a1 : Addr) (a2 : Addr) (h0 : Heap) (n0 : Nat) (v : Option Value) (h : Heap) (L : List Loc) : Prop := v = some (.ref a1) ∧ Fr n0 L ∧ h = h0
set_option maxRecDepth 65536 in
set_option maxHeartbeats 40000000 in
theorem rm_reqNN (l : Launch) (Z : State) (a0 : Array Value) (hw : ∀ d ∈ tables_1, d.before a0 Z = true) (zc : Int32) (kd0 : Addr) (kd1 : Addr) (kd2 : Addr) (kd3 : Addr) (kd4 : Addr) (kd5 : Addr) (kd6 : Addr) (kd7 : Addr) (kd8 : Addr) (kd9 : Addr) (kd10 : Addr) (kd11 : Addr) (kd12 : Addr) (kd13 : Addr) (kd14 : Addr) (kd15 : Addr) (kd16 : Addr) (kd17 : Addr) (a1 : Addr) (a2 : Addr) (h0 : Heap) (n0 : Nat) (Z0 : n0 ≤ h0.size) (hSt : St Z zc kd0 kd1 kd2 kd3 kd4 kd5 kd6 kd7 kd8 kd9 kd10 kd11 kd12 kd13 kd14 kd15 kd16 kd17) (hO : Old Z n0 h0) :
    CN l Z ({ cls := "java/util/Objects", name := "requireNonNull", desc := "(Ljava/lang/Object;Ljava/lang/String;)Ljava/lang/Object;" } : Jvm.MethodName) [(Jvm.Cond.code ({ cls := "java/util/Objects", name := "requireNonNull", desc := "(Ljava/lang/Object;Ljava/lang/String;)Ljava/lang/Object;" } : Jvm.MethodName) jdk_31_method_11_code (2 : Nat) (Option.some (Jvm.ClassFile.FieldType.object "java/lang/Object")))] ({ frames := 0, cells := 0, slots := 0, locals := 0 } : Room) #[(.ref a1), (.ref a2)] h0 (Q_reqNN Z zc kd0 kd1 kd2 kd3 kd4 kd5 kd6 kd7 kd8 kd9 kd10 kd11 kd12 kd13 kd14 kd15 kd16 kd17 a1 a2 h0 n0) := by
  refine CN.of (L0 := #[.val (.ref a1), .val (.ref a2)]) (plainFor_of_name pn_2) (fun m => by first | (simp [entryFrame, mkF, argsToLocals, Value.category]; done) | rfl) ?_
  intro p e s m below meth c s₁ hx hby hml hret hlk hZ hown hnm X0 e0
  have N0 := Fr.nil n0
  have KP0 := Keep.refl h0 []
  have hSt_ := hSt
  obtain ⟨S_cs, n_cs, S_kd0, S_kd1, S_kd2, S_kd3, S_kd4, S_kd5, S_kd6, S_kd7, S_kd8, S_kd9, S_kd10, S_kd11, S_kd12, S_kd13, S_kd14, S_kd15, S_kd16, S_kd17, ne_kd0, ne_kd2, ne_kd3, ne_kd4, ne_kd5, ne_kd6, ne_kd7, ne_kd8, ne_kd9, ne_kd10, ne_kd11, ne_kd12, ne_kd13, ne_kd14, ne_kd15, ne_kd16, ne_kd17⟩ := hSt_
  show Go p e below _ (s₁.setTop (mkF m 0 #[.val (.ref a1), .val (.ref a2)] []))
  refine Go.step (fun _ k => XS.aloadN X0.here hx rfl (hb hby d_jdk_31_method_11_code_0) rfl rfl k) ?_
  show Go p e below _ (s₁.setTop (mkF m 1 #[.val (.ref a1), .val (.ref a2)] [(.ref a1)]))
  refine Go.step (fun _ k => XS.ifnonnullYes X0.here hx rfl (pc0 := 1) (pc' := 13) rfl (hb hby d_jdk_31_method_11_code_1) rfl (by decide) (by decide) k) ?_
  show Go p e below _ (s₁.setTop (mkF m 13 #[.val (.ref a1), .val (.ref a2)] []))
  refine Go.step (fun _ k => XS.aloadN X0.here hx rfl (hb hby d_jdk_31_method_11_code_13) rfl rfl k) ?_
  show Go p e below _ (s₁.setTop (mkF m 14 #[.val (.ref a1), .val (.ref a2)] [(.ref a1)]))
  exact Go.retV X0 hx hlk hret rfl (Or.inr (Or.inr (Or.inr (Or.inr ⟨rfl, rfl, rfl⟩)))) (hb hby d_jdk_31_method_11_code_14) (by decide) (by decide) (by rw [e0]; exact ⟨rfl, N0, rfl⟩)
--@E
--@C initSP
def Q_initSP (Z : State) (zc : Int32) (kd0 : Addr) (kd1 : Addr) (kd2 : Addr) (kd3 : Addr) (kd4 : Addr) (kd5 : Addr) (kd6 : Addr) (kd7 : Addr) (kd8 : Addr) (kd9 : Addr) (kd10 : Addr) (kd11 : Addr) (kd12 : Addr) (kd13 : Addr) (kd14 : Addr) (kd15 : Addr) (kd16 : Addr) (kd17 : Addr) (a1 : Addr) (s1 : Addr) (cs : List Int32) (p1 : Int32) (p2 : Int32) (h0 : Heap) (n0 : Nat) (v : Option Value) (h : Heap) (L : List Loc) : Prop := v = none ∧ Fr n0 L ∧ Keep h0 h [a1]
set_option maxRecDepth 65536 in
set_option maxHeartbeats 40000000 in
theorem rm_initSP (l : Launch) (Z : State) (a0 : Array Value) (hw : ∀ d ∈ tables_1, d.before a0 Z = true) (zc : Int32) (kd0 : Addr) (kd1 : Addr) (kd2 : Addr) (kd3 : Addr) (kd4 : Addr) (kd5 : Addr) (kd6 : Addr) (kd7 : Addr) (kd8 : Addr) (kd9 : Addr) (kd10 : Addr) (kd11 : Addr) (kd12 : Addr) (kd13 : Addr) (kd14 : Addr) (kd15 : Addr) (kd16 : Addr) (kd17 : Addr) (a1 : Addr) (s1 : Addr) (cs : List Int32) (p1 : Int32) (p2 : Int32) (h0 : Heap) (n0 : Nat) (Z0 : n0 ≤ h0.size) (E_a1 : Exa Z h0 a1 "com/example/stubwright/stubwright/SourcePosition") (g_a1 : n0 ≤ a1) (S_s1 : Str Z h0.size h0 s1 cs) (F_file : Fld Z h0 a1 "com/example/stubwright/stubwright/SourcePosition" "file" "Ljava/lang/String;" .null) (F_line : Fld Z h0 a1 "com/example/stubwright/stubwright/SourcePosition" "line" "I" (.int (0 : Int32))) (F_column : Fld Z h0 a1 "com/example/stubwright/stubwright/SourcePosition" "column" "I" (.int (0 : Int32))) (hSt : St Z zc kd0 kd1 kd2 kd3 kd4 kd5 kd6 kd7 kd8 kd9 kd10 kd11 kd12 kd13 kd14 kd15 kd16 kd17) (hO : Old Z n0 h0) :
    CW l Z EL ({ cls := "com/example/stubwright/stubwright/SourcePosition", name := "<init>", desc := "(Ljava/lang/String;II)V" } : Jvm.MethodName) [(Jvm.Cond.code ({ cls := "com/example/stubwright/stubwright/SourcePosition", name := "<init>", desc := "(Ljava/lang/String;II)V" } : Jvm.MethodName) prog_4_method_1_code (4 : Nat) (Option.none : Option Jvm.ClassFile.FieldType))] ({ frames := 1, cells := 2, slots := 20, locals := 14 } : Room) #[(.ref a1), (.ref s1), (.int p1), (.int p2)] h0 (Q_initSP Z zc kd0 kd1 kd2 kd3 kd4 kd5 kd6 kd7 kd8 kd9 kd10 kd11 kd12 kd13 kd14 kd15 kd16 kd17 a1 s1 cs p1 p2 h0 n0) := by
  refine CW.of (L0 := #[.val (.ref a1), .val (.ref s1), .val (.int p1), .val (.int p2)]) (plainFor_of_name pn_3) (fun m => by first | (simp [entryFrame, mkF, argsToLocals, Value.category]; done) | rfl) ?_
  intro p e s m below meth c s₁ hx hby hml hret hlk hZ hown hnm X0 e0 hS0 hk0 CV0 hh0
  have hEL := hEL_ (a0 := a0) hw
  have hwS := hwS_ hw
  have N0 := Fr.nil n0
  have KP0 := Keep.refl h0 [a1]
  have hSt_ := hSt
  obtain ⟨S_cs, n_cs, S_kd0, S_kd1, S_kd2, S_kd3, S_kd4, S_kd5, S_kd6, S_kd7, S_kd8, S_kd9, S_kd10, S_kd11, S_kd12, S_kd13, S_kd14, S_kd15, S_kd16, S_kd17, ne_kd0, ne_kd2, ne_kd3, ne_kd4, ne_kd5, ne_kd6, ne_kd7, ne_kd8, ne_kd9, ne_kd10, ne_kd11, ne_kd12, ne_kd13, ne_kd14, ne_kd15, ne_kd16, ne_kd17⟩ := hSt_
  show Go p e below _ (s₁.setTop (mkF m 0 #[.val (.ref a1), .val (.ref s1), .val (.int p1), .val (.int p2)] []))
  refine Go.step (fun _ k => XS.aloadN X0.here hx rfl (hb hby d_prog_4_method_1_code_0) rfl rfl k) ?_
  show Go p e below _ (s₁.setTop (mkF m 1 #[.val (.ref a1), .val (.ref s1), .val (.int p1), .val (.int p2)] [(.ref a1)]))
  obtain ⟨T_49, X_49, e_49, st_49⟩ := initO X0 hx hZ hown (wd_45 hw) (wd_17 hw) (wd_18 hw) e0 (g := (mkF m 1 #[.val (.ref a1), .val (.ref s1), .val (.int p1), .val (.int p2)] [(.ref a1)])) rfl (by rw [hml]; rfl) rfl (hb hby d_prog_4_method_1_code_1) (by decide) (W := 0) (by show 2 * 0 + _ ≤ _; exact Nat.le_of_eq rfl) (by decide)
  refine Go.step st_49 ?_
  show Go p e below _ (T_49.setTop (mkF m 4 #[.val (.ref a1), .val (.ref s1), .val (.int p1), .val (.int p2)] []))
  refine Go.step (fun _ k => XS.aloadN X_49.here hx rfl (hb hby d_prog_4_method_1_code_4) rfl rfl k) ?_
  show Go p e below _ (T_49.setTop (mkF m 5 #[.val (.ref a1), .val (.ref s1), .val (.int p1), .val (.int p2)] [(.ref a1)]))
  refine Go.step (fun _ k => XS.aloadN X_49.here hx rfl (hb hby d_prog_4_method_1_code_5) rfl rfl k) ?_
  show Go p e below _ (T_49.setTop (mkF m 6 #[.val (.ref a1), .val (.ref s1), .val (.int p1), .val (.int p2)] [(.ref s1), (.ref a1)]))
  obtain ⟨a_50, T_50, h_50, k1_50, t_50, kb_50, X_50, e_50, E_50, hS_50, hk_50, hZ_50, hown_50, Ex_50, Fc_50, Fv_50, Av_50, lta_50, ltb_50, C_50, Lt_50, -, st_50⟩ := ldcCH X_49 hx hZ hown (wd_46 hw) hwS e_49 hS0 hk0 hEL (by decide) CV0 (vs := [(.int (102 : Int32)), (.int (105 : Int32)), (.int (108 : Int32)), (.int (101 : Int32))]) (z := (4 : Int32)) ⟨by decide, by decide⟩ (by decide) (by decide) (g := (mkF m 6 #[.val (.ref a1), .val (.ref s1), .val (.int p1), .val (.int p2)] [(.ref s1), (.ref a1)])) rfl (hb hby d_prog_4_method_1_code_6) (n := 16) (by decide) (by decide) (by decide) (by decide)
  refine Go.step st_50 ?_
  have CR_50 := CHr.trans (CHr.refl CV0) C_50
  have le_50 : h0.size ≤ h_50.size := E_50.1
  have KP_50 := KP0.ext E_50
  have O_50 := hO.ext E_50
  have Sx_50 : Str Z h_50.size h_50 a_50 ([(102 : Int32), (105 : Int32), (108 : Int32), (101 : Int32)] : List Int32) := ⟨t_50, kb_50, lta_50, ltb_50, Ex_50, Fv_50, Fc_50, Av_50, by decide, by decide⟩
  show Go p e below _ (T_50.setTop (mkF m 8 #[.val (.ref a1), .val (.ref s1), .val (.int p1), .val (.int p2)] [(.ref a_50), (.ref s1), (.ref a1)]))
  obtain ⟨v_51, T_51, L_51, X_51, hQ_51, st_51⟩ := goS X_50 hx hZ_50 (y := ({ cls := "java/util/Objects", name := "requireNonNull", desc := "(Ljava/lang/Object;Ljava/lang/String;)Ljava/lang/Object;" } : Jvm.MethodName)) hown_50 (wd_47 hw) (wd_48 hw) (wd_49 hw) (wd_50 hw) (by decide) (backOf (W := 1) (rm_reqNN l Z a0 hw zc kd0 kd1 kd2 kd3 kd4 kd5 kd6 kd7 kd8 kd9 kd10 kd11 kd12 kd13 kd14 kd15 kd16 kd17 (s1) (a_50) h_50 n0 (Nat.le_trans Z0 KP_50.1) hSt O_50) hZ_50 (wd_50 hw) (wd_49 hw) (by decide) (by decide)) e_50 (g := (mkF m 8 #[.val (.ref a1), .val (.ref s1), .val (.int p1), .val (.int p2)] [(.ref a_50), (.ref s1), (.ref a1)])) rfl (by rw [hml]; rfl) (argsL := [(.ref s1), (.ref a_50)]) (rest := [(.ref a1)]) rfl (lenOf pd_2 rfl) rfl (by show 2 * 0 + _ ≤ _; exact Nat.le_of_eq rfl) (hb hby d_prog_4_method_1_code_8) (by decide) (by decide)
  obtain ⟨rfl, Nq_51, e_51⟩ := hQ_51
  have N_51 := Fr.app N0 Nq_51
  refine Go.step st_51 ?_
  show Go p e below _ (T_51.setTop (mkF m 11 #[.val (.ref a1), .val (.ref s1), .val (.int p1), .val (.int p2)] [(.ref s1), (.ref a1)]))
  have f52 : Str Z h0.size h_50 s1 cs := (S_s1.ext E_50)
  obtain ⟨T_53, X_53, e_53, st_53⟩ := castY X_51 hx hZ_50 hown_50 (wd_51 hw) e_51 (Ins.self f52.exa) (g := (mkF m 11 #[.val (.ref a1), .val (.ref s1), .val (.int p1), .val (.int p2)] [(.ref s1), (.ref a1)])) rfl rfl (hb hby d_prog_4_method_1_code_11)
  refine Go.step st_53 ?_
  show Go p e below _ (T_53.setTop (mkF m 14 #[.val (.ref a1), .val (.ref s1), .val (.int p1), .val (.int p2)] [(.ref s1), (.ref a1)]))
  have f54 : Exa Z h_50 a1 "com/example/stubwright/stubwright/SourcePosition" := (E_a1.ext E_50)
  have f55 : Fld Z h_50 a1 "com/example/stubwright/stubwright/SourcePosition" "file" "Ljava/lang/String;" .null := (F_file.ext E_50)
  obtain ⟨T_56, h_56, X_56, e_56, W_56, st_56⟩ := putF X_53 hx hZ_50 hown_50 (host := "") (Or.inl (wd_52 hw)) Via.refl e_53 f55 f54 (Or.inr ⟨(wd_53 hw), rfl, hnm⟩) (wd_39 hw) (ty := (.object "java/lang/String")) pf_2 rfl rfl (g := (mkF m 14 #[.val (.ref a1), .val (.ref s1), .val (.int p1), .val (.int p2)] [(.ref s1), (.ref a1)])) rfl rfl (hb hby d_prog_4_method_1_code_14)
  refine Go.step st_56 ?_
  have N_56 := Fr.snoc X_56 N_51 g_a1
  have C_56 := CHr.wr W_56 (Safe.exa hZ_50.alike f54 (by decide) (by decide)) C_50.1
  have CR_56 := CHr.trans CR_50 C_56
  have le_56 : h_50.size ≤ h_56.size := Nat.le_of_eq W_56.size.symm
  have KP_56 := KP_50.wr W_56 (Or.inl (List.mem_of_getElem? (i := 0) rfl))
  have O_56 := O_50.wr W_56 g_a1
  have F_56 : Fld Z h_56 a1 "com/example/stubwright/stubwright/SourcePosition" "file" "Ljava/lang/String;" (.ref s1) := f55.same W_56
  show Go p e below _ (T_56.setTop (mkF m 17 #[.val (.ref a1), .val (.ref s1), .val (.int p1), .val (.int p2)] []))
  refine Go.step (fun _ k => XS.aloadN X_56.here hx rfl (hb hby d_prog_4_method_1_code_17) rfl rfl k) ?_
  show Go p e below _ (T_56.setTop (mkF m 18 #[.val (.ref a1), .val (.ref s1), .val (.int p1), .val (.int p2)] [(.ref a1)]))
  refine Go.step (fun _ k => XS.iloadN X_56.here hx rfl (hb hby d_prog_4_method_1_code_18) rfl  k) ?_
  show Go p e below _ (T_56.setTop (mkF m 19 #[.val (.ref a1), .val (.ref s1), .val (.int p1), .val (.int p2)] [(.int p1), (.ref a1)]))
  have f57 : Exa Z h_56 a1 "com/example/stubwright/stubwright/SourcePosition" := (f54.wr W_56)
  have f58 : Fld Z h_56 a1 "com/example/stubwright/stubwright/SourcePosition" "line" "I" (.int (0 : Int32)) := ((F_line.ext E_50).other W_56 (Or.inr (sn_2 hw)))
  obtain ⟨T_59, h_59, X_59, e_59, W_59, st_59⟩ := putF X_56 hx hZ_50 hown_50 (host := "") (Or.inl (wd_54 hw)) Via.refl e_56 f58 f57 (Or.inr ⟨(wd_55 hw), rfl, hnm⟩) (wd_39 hw) (ty := .int) pf_3 rfl rfl (g := (mkF m 19 #[.val (.ref a1), .val (.ref s1), .val (.int p1), .val (.int p2)] [(.int p1), (.ref a1)])) rfl rfl (hb hby d_prog_4_method_1_code_19)
  refine Go.step st_59 ?_
  have N_59 := Fr.snoc X_59 N_56 g_a1
  have C_59 := CHr.wr W_59 (Safe.exa hZ_50.alike f57 (by decide) (by decide)) C_56.1
  have CR_59 := CHr.trans CR_56 C_59
  have le_59 : h_56.size ≤ h_59.size := Nat.le_of_eq W_59.size.symm
  have KP_59 := KP_56.wr W_59 (Or.inl (List.mem_of_getElem? (i := 0) rfl))
  have O_59 := O_56.wr W_59 g_a1
  have F_59 : Fld Z h_59 a1 "com/example/stubwright/stubwright/SourcePosition" "line" "I" (.int p1) := f58.same W_59
  show Go p e below _ (T_59.setTop (mkF m 22 #[.val (.ref a1), .val (.ref s1), .val (.int p1), .val (.int p2)] []))
  refine Go.step (fun _ k => XS.aloadN X_59.here hx rfl (hb hby d_prog_4_method_1_code_22) rfl rfl k) ?_
  show Go p e below _ (T_59.setTop (mkF m 23 #[.val (.ref a1), .val (.ref s1), .val (.int p1), .val (.int p2)] [(.ref a1)]))
  refine Go.step (fun _ k => XS.iloadN X_59.here hx rfl (hb hby d_prog_4_method_1_code_23) rfl  k) ?_
  show Go p e below _ (T_59.setTop (mkF m 24 #[.val (.ref a1), .val (.ref s1), .val (.int p1), .val (.int p2)] [(.int p2), (.ref a1)]))
  have f60 : Exa Z h_59 a1 "com/example/stubwright/stubwright/SourcePosition" := (f57.wr W_59)
  have f61 : Fld Z h_59 a1 "com/example/stubwright/stubwright/SourcePosition" "column" "I" (.int (0 : Int32)) := (((F_column.ext E_50).other W_56 (Or.inr (sn_3 hw))).other W_59 (Or.inr (sn_4 hw)))
  obtain ⟨T_62, h_62, X_62, e_62, W_62, st_62⟩ := putF X_59 hx hZ_50 hown_50 (host := "") (Or.inl (wd_56 hw)) Via.refl e_59 f61 f60 (Or.inr ⟨(wd_57 hw), rfl, hnm⟩) (wd_39 hw) (ty := .int) pf_3 rfl rfl (g := (mkF m 24 #[.val (.ref a1), .val (.ref s1), .val (.int p1), .val (.int p2)] [(.int p2), (.ref a1)])) rfl rfl (hb hby d_prog_4_method_1_code_24)
  refine Go.step st_62 ?_
  have N_62 := Fr.snoc X_62 N_59 g_a1
  have C_62 := CHr.wr W_62 (Safe.exa hZ_50.alike f60 (by decide) (by decide)) C_59.1
  have CR_62 := CHr.trans CR_59 C_62
  have le_62 : h_59.size ≤ h_62.size := Nat.le_of_eq W_62.size.symm
  have KP_62 := KP_59.wr W_62 (Or.inl (List.mem_of_getElem? (i := 0) rfl))
  have O_62 := O_59.wr W_62 g_a1
  have F_62 : Fld Z h_62 a1 "com/example/stubwright/stubwright/SourcePosition" "column" "I" (.int p2) := f61.same W_62
  show Go p e below _ (T_62.setTop (mkF m 27 #[.val (.ref a1), .val (.ref s1), .val (.int p1), .val (.int p2)] []))
  exact Go.ret0W X_62 e_62 hS_50 (Nat.le_trans hk_50 (Nat.le_trans le_56 (Nat.le_trans le_59 le_62))) hZ_50 hEL hh0 CR_62 hx hlk hret (hb hby d_prog_4_method_1_code_27) (by decide) (by decide) (by rw [e_62]; exact ⟨rfl, N_62, KP_62⟩)
--@E
--@C initT4
def Q_initT4 (Z : State) (zc : Int32) (kd0 : Addr) (kd1 : Addr) (kd2 : Addr) (kd3 : Addr) (kd4 : Addr) (kd5 : Addr) (kd6 : Addr) (kd7 : Addr) (kd8 : Addr) (kd9 : Addr) (kd10 : Addr) (kd11 : Addr) (kd12 : Addr) (kd13 : Addr) (kd14 : Addr) (kd15 : Addr) (kd16 : Addr) (kd17 : Addr) (a1 : Addr) (k1 : Addr) (t1 : Addr) (ps : Addr) (h0 : Heap) (n0 : Nat) (v : Option Value) (h : Heap) (L : List Loc) : Prop := v = none ∧ Fr n0 L ∧ Keep h0 h [a1] ∧ Fld Z h a1 "com/example/stubwright/stubwright/idl/Token" "kind" "Lcom/example/stubwright/stubwright/idl/Token$Kind;" (.ref k1) ∧ Fld Z h a1 "com/example/stubwright/stubwright/idl/Token" "text" "Ljava/lang/String;" (.ref t1) ∧ Fld Z h a1 "com/example/stubwright/stubwright/idl/Token" "position" "Lcom/example/stubwright/stubwright/SourcePosition;" (.ref ps) ∧ Fld Z h a1 "com/example/stubwright/stubwright/idl/Token" "escaped" "Z" (.int (0 : Int32))
set_option maxRecDepth 65536 in
set_option maxHeartbeats 40000000 in
theorem rm_initT4 (l : Launch) (Z : State) (a0 : Array Value) (hw : ∀ d ∈ tables_1, d.before a0 Z = true) (zc : Int32) (kd0 : Addr) (kd1 : Addr) (kd2 : Addr) (kd3 : Addr) (kd4 : Addr) (kd5 : Addr) (kd6 : Addr) (kd7 : Addr) (kd8 : Addr) (kd9 : Addr) (kd10 : Addr) (kd11 : Addr) (kd12 : Addr) (kd13 : Addr) (kd14 : Addr) (kd15 : Addr) (kd16 : Addr) (kd17 : Addr) (a1 : Addr) (k1 : Addr) (t1 : Addr) (ps : Addr) (h0 : Heap) (n0 : Nat) (Z0 : n0 ≤ h0.size) (E_a1 : Exa Z h0 a1 "com/example/stubwright/stubwright/idl/Token") (g_a1 : n0 ≤ a1) (F_kind : Fld Z h0 a1 "com/example/stubwright/stubwright/idl/Token" "kind" "Lcom/example/stubwright/stubwright/idl/Token$Kind;" .null) (F_text : Fld Z h0 a1 "com/example/stubwright/stubwright/idl/Token" "text" "Ljava/lang/String;" .null) (F_position : Fld Z h0 a1 "com/example/stubwright/stubwright/idl/Token" "position" "Lcom/example/stubwright/stubwright/SourcePosition;" .null) (F_escaped : Fld Z h0 a1 "com/example/stubwright/stubwright/idl/Token" "escaped" "Z" (.int (0 : Int32))) (hSt : St Z zc kd0 kd1 kd2 kd3 kd4 kd5 kd6 kd7 kd8 kd9 kd10 kd11 kd12 kd13 kd14 kd15 kd16 kd17) (hO : Old Z n0 h0) :
    CN l Z ({ cls := "com/example/stubwright/stubwright/idl/Token", name := "<init>", desc := "(Lcom/example/stubwright/stubwright/idl/Token$Kind;Ljava/lang/String;Lcom/example/stubwright/stubwright/SourcePosition;Z)V" } : Jvm.MethodName) [(Jvm.Cond.code ({ cls := "com/example/stubwright/stubwright/idl/Token", name := "<init>", desc := "(Lcom/example/stubwright/stubwright/idl/Token$Kind;Ljava/lang/String;Lcom/example/stubwright/stubwright/SourcePosition;Z)V" } : Jvm.MethodName) prog_36_method_2_code (5 : Nat) (Option.none : Option Jvm.ClassFile.FieldType))] ({ frames := 1, cells := 0, slots := 0, locals := 12 } : Room) #[(.ref a1), (.ref k1), (.ref t1), (.ref ps), (.int (0 : Int32))] h0 (Q_initT4 Z zc kd0 kd1 kd2 kd3 kd4 kd5 kd6 kd7 kd8 kd9 kd10 kd11 kd12 kd13 kd14 kd15 kd16 kd17 a1 k1 t1 ps h0 n0) := by
  refine CN.of (L0 := #[.val (.ref a1), .val (.ref k1), .val (.ref t1), .val (.ref ps), .val (.int (0 : Int32))]) (plainFor_of_name pn_4) (fun m => by first | (simp [entryFrame, mkF, argsToLocals, Value.category]; done) | rfl) ?_
  intro p e s m below meth c s₁ hx hby hml hret hlk hZ hown hnm X0 e0
  have N0 := Fr.nil n0
  have KP0 := Keep.refl h0 [a1]
  have hSt_ := hSt
  obtain ⟨S_cs, n_cs, S_kd0, S_kd1, S_kd2, S_kd3, S_kd4, S_kd5, S_kd6, S_kd7, S_kd8, S_kd9, S_kd10, S_kd11, S_kd12, S_kd13, S_kd14, S_kd15, S_kd16, S_kd17, ne_kd0, ne_kd2, ne_kd3, ne_kd4, ne_kd5, ne_kd6, ne_kd7, ne_kd8, ne_kd9, ne_kd10, ne_kd11, ne_kd12, ne_kd13, ne_kd14, ne_kd15, ne_kd16, ne_kd17⟩ := hSt_
  show Go p e below _ (s₁.setTop (mkF m 0 #[.val (.ref a1), .val (.ref k1), .val (.ref t1), .val (.ref ps), .val (.int (0 : Int32))] []))
  refine Go.step (fun _ k => XS.aloadN X0.here hx rfl (hb hby d_prog_36_method_2_code_0) rfl rfl k) ?_
  show Go p e below _ (s₁.setTop (mkF m 1 #[.val (.ref a1), .val (.ref k1), .val (.ref t1), .val (.ref ps), .val (.int (0 : Int32))] [(.ref a1)]))
  obtain ⟨T_63, X_63, e_63, st_63⟩ := initO X0 hx hZ hown (wd_73 hw) (wd_17 hw) (wd_18 hw) e0 (g := (mkF m 1 #[.val (.ref a1), .val (.ref k1), .val (.ref t1), .val (.ref ps), .val (.int (0 : Int32))] [(.ref a1)])) rfl (by rw [hml]; rfl) rfl (hb hby d_prog_36_method_2_code_1) (by decide) (W := 0) (by show 2 * 0 + _ ≤ _; exact Nat.le_of_eq rfl) (by decide)
  refine Go.step st_63 ?_
  show Go p e below _ (T_63.setTop (mkF m 4 #[.val (.ref a1), .val (.ref k1), .val (.ref t1), .val (.ref ps), .val (.int (0 : Int32))] []))
  refine Go.step (fun _ k => XS.aloadN X_63.here hx rfl (hb hby d_prog_36_method_2_code_4) rfl rfl k) ?_
  show Go p e below _ (T_63.setTop (mkF m 5 #[.val (.ref a1), .val (.ref k1), .val (.ref t1), .val (.ref ps), .val (.int (0 : Int32))] [(.ref a1)]))
  refine Go.step (fun _ k => XS.aloadN X_63.here hx rfl (hb hby d_prog_36_method_2_code_5) rfl rfl k) ?_
  show Go p e below _ (T_63.setTop (mkF m 6 #[.val (.ref a1), .val (.ref k1), .val (.ref t1), .val (.ref ps), .val (.int (0 : Int32))] [(.ref k1), (.ref a1)]))
  obtain ⟨T_64, h_64, X_64, e_64, W_64, st_64⟩ := putF X_63 hx hZ hown (host := "") (Or.inl (wd_74 hw)) Via.refl e_63 F_kind E_a1 (Or.inr ⟨(wd_75 hw), rfl, hnm⟩) (wd_59 hw) (ty := (.object "com/example/stubwright/stubwright/idl/Token$Kind")) pf_4 rfl rfl (g := (mkF m 6 #[.val (.ref a1), .val (.ref k1), .val (.ref t1), .val (.ref ps), .val (.int (0 : Int32))] [(.ref k1), (.ref a1)])) rfl rfl (hb hby d_prog_36_method_2_code_6)
  refine Go.step st_64 ?_
  have N_64 := Fr.snoc X_64 N0 g_a1
  have le_64 : h0.size ≤ h_64.size := Nat.le_of_eq W_64.size.symm
  have KP_64 := KP0.wr W_64 (Or.inl (List.mem_of_getElem? (i := 0) rfl))
  have O_64 := hO.wr W_64 g_a1
  have F_64 : Fld Z h_64 a1 "com/example/stubwright/stubwright/idl/Token" "kind" "Lcom/example/stubwright/stubwright/idl/Token$Kind;" (.ref k1) := F_kind.same W_64
  show Go p e below _ (T_64.setTop (mkF m 9 #[.val (.ref a1), .val (.ref k1), .val (.ref t1), .val (.ref ps), .val (.int (0 : Int32))] []))
  refine Go.step (fun _ k => XS.aloadN X_64.here hx rfl (hb hby d_prog_36_method_2_code_9) rfl rfl k) ?_
  show Go p e below _ (T_64.setTop (mkF m 10 #[.val (.ref a1), .val (.ref k1), .val (.ref t1), .val (.ref ps), .val (.int (0 : Int32))] [(.ref a1)]))
  refine Go.step (fun _ k => XS.aloadN X_64.here hx rfl (hb hby d_prog_36_method_2_code_10) rfl rfl k) ?_
  show Go p e below _ (T_64.setTop (mkF m 11 #[.val (.ref a1), .val (.ref k1), .val (.ref t1), .val (.ref ps), .val (.int (0 : Int32))] [(.ref t1), (.ref a1)]))
  have f65 : Exa Z h_64 a1 "com/example/stubwright/stubwright/idl/Token" := (E_a1.wr W_64)
  have f66 : Fld Z h_64 a1 "com/example/stubwright/stubwright/idl/Token" "text" "Ljava/lang/String;" .null := (F_text.other W_64 (Or.inr (sn_5 hw)))
  obtain ⟨T_67, h_67, X_67, e_67, W_67, st_67⟩ := putF X_64 hx hZ hown (host := "") (Or.inl (wd_76 hw)) Via.refl e_64 f66 f65 (Or.inr ⟨(wd_77 hw), rfl, hnm⟩) (wd_59 hw) (ty := (.object "java/lang/String")) pf_2 rfl rfl (g := (mkF m 11 #[.val (.ref a1), .val (.ref k1), .val (.ref t1), .val (.ref ps), .val (.int (0 : Int32))] [(.ref t1), (.ref a1)])) rfl rfl (hb hby d_prog_36_method_2_code_11)
  refine Go.step st_67 ?_
  have N_67 := Fr.snoc X_67 N_64 g_a1
  have le_67 : h_64.size ≤ h_67.size := Nat.le_of_eq W_67.size.symm
  have KP_67 := KP_64.wr W_67 (Or.inl (List.mem_of_getElem? (i := 0) rfl))
  have O_67 := O_64.wr W_67 g_a1
  have F_67 : Fld Z h_67 a1 "com/example/stubwright/stubwright/idl/Token" "text" "Ljava/lang/String;" (.ref t1) := f66.same W_67
  show Go p e below _ (T_67.setTop (mkF m 14 #[.val (.ref a1), .val (.ref k1), .val (.ref t1), .val (.ref ps), .val (.int (0 : Int32))] []))
  refine Go.step (fun _ k => XS.aloadN X_67.here hx rfl (hb hby d_prog_36_method_2_code_14) rfl rfl k) ?_
  show Go p e below _ (T_67.setTop (mkF m 15 #[.val (.ref a1), .val (.ref k1), .val (.ref t1), .val (.ref ps), .val (.int (0 : Int32))] [(.ref a1)]))
  refine Go.step (fun _ k => XS.aloadN X_67.here hx rfl (hb hby d_prog_36_method_2_code_15) rfl rfl k) ?_
  show Go p e below _ (T_67.setTop (mkF m 16 #[.val (.ref a1), .val (.ref k1), .val (.ref t1), .val (.ref ps), .val (.int (0 : Int32))] [(.ref ps), (.ref a1)]))
  have f68 : Exa Z h_67 a1 "com/example/stubwright/stubwright/idl/Token" := (f65.wr W_67)
  have f69 : Fld Z h_67 a1 "com/example/stubwright/stubwright/idl/Token" "position" "Lcom/example/stubwright/stubwright/SourcePosition;" .null := ((F_position.other W_64 (Or.inr (sn_6 hw))).other W_67 (Or.inr (sn_7 hw)))
  obtain ⟨T_70, h_70, X_70, e_70, W_70, st_70⟩ := putF X_67 hx hZ hown (host := "") (Or.inl (wd_78 hw)) Via.refl e_67 f69 f68 (Or.inr ⟨(wd_79 hw), rfl, hnm⟩) (wd_59 hw) (ty := (.object "com/example/stubwright/stubwright/SourcePosition")) pf_5 rfl rfl (g := (mkF m 16 #[.val (.ref a1), .val (.ref k1), .val (.ref t1), .val (.ref ps), .val (.int (0 : Int32))] [(.ref ps), (.ref a1)])) rfl rfl (hb hby d_prog_36_method_2_code_16)
  refine Go.step st_70 ?_
  have N_70 := Fr.snoc X_70 N_67 g_a1
  have le_70 : h_67.size ≤ h_70.size := Nat.le_of_eq W_70.size.symm
  have KP_70 := KP_67.wr W_70 (Or.inl (List.mem_of_getElem? (i := 0) rfl))
  have O_70 := O_67.wr W_70 g_a1
  have F_70 : Fld Z h_70 a1 "com/example/stubwright/stubwright/idl/Token" "position" "Lcom/example/stubwright/stubwright/SourcePosition;" (.ref ps) := f69.same W_70
  show Go p e below _ (T_70.setTop (mkF m 19 #[.val (.ref a1), .val (.ref k1), .val (.ref t1), .val (.ref ps), .val (.int (0 : Int32))] []))
  refine Go.step (fun _ k => XS.aloadN X_70.here hx rfl (hb hby d_prog_36_method_2_code_19) rfl rfl k) ?_
  show Go p e below _ (T_70.setTop (mkF m 20 #[.val (.ref a1), .val (.ref k1), .val (.ref t1), .val (.ref ps), .val (.int (0 : Int32))] [(.ref a1)]))
  refine Go.step (fun _ k => XS.iload X_70.here hx rfl (hb hby d_prog_36_method_2_code_20) rfl  k) ?_
  show Go p e below _ (T_70.setTop (mkF m 22 #[.val (.ref a1), .val (.ref k1), .val (.ref t1), .val (.ref ps), .val (.int (0 : Int32))] [(.int (0 : Int32)), (.ref a1)]))
  have f71 : Exa Z h_70 a1 "com/example/stubwright/stubwright/idl/Token" := (f68.wr W_70)
  have f72 : Fld Z h_70 a1 "com/example/stubwright/stubwright/idl/Token" "escaped" "Z" (.int (0 : Int32)) := (((F_escaped.other W_64 (Or.inr (sn_8 hw))).other W_67 (Or.inr (sn_9 hw))).other W_70 (Or.inr (sn_10 hw)))
  obtain ⟨T_73, h_73, X_73, e_73, W_73, st_73⟩ := putFN X_70 hx hZ hown (wd_80 hw) Via.refl e_70 f72 f71 (Or.inr ⟨(wd_81 hw), rfl, hnm⟩) (wd_59 hw) (ty := .boolean) (v' := (.int (0 : Int32))) pf_6 rfl (by decide) (g := (mkF m 22 #[.val (.ref a1), .val (.ref k1), .val (.ref t1), .val (.ref ps), .val (.int (0 : Int32))] [(.int (0 : Int32)), (.ref a1)])) rfl rfl (hb hby d_prog_36_method_2_code_22)
  refine Go.step st_73 ?_
  have N_73 := Fr.snoc X_73 N_70 g_a1
  have le_73 : h_70.size ≤ h_73.size := Nat.le_of_eq W_73.size.symm
  have KP_73 := KP_70.wr W_73 (Or.inl (List.mem_of_getElem? (i := 0) rfl))
  have O_73 := O_70.wr W_73 g_a1
  have F_73 : Fld Z h_73 a1 "com/example/stubwright/stubwright/idl/Token" "escaped" "Z" (.int (0 : Int32)) := f72.same W_73
  show Go p e below _ (T_73.setTop (mkF m 25 #[.val (.ref a1), .val (.ref k1), .val (.ref t1), .val (.ref ps), .val (.int (0 : Int32))] []))
  have f74 : Fld Z h_73 a1 "com/example/stubwright/stubwright/idl/Token" "kind" "Lcom/example/stubwright/stubwright/idl/Token$Kind;" (.ref k1) := (((F_64.other W_67 (Or.inr (sn_11 hw))).other W_70 (Or.inr (sn_12 hw))).other W_73 (Or.inr (sn_13 hw)))
  have f75 : Fld Z h_73 a1 "com/example/stubwright/stubwright/idl/Token" "text" "Ljava/lang/String;" (.ref t1) := ((F_67.other W_70 (Or.inr (sn_14 hw))).other W_73 (Or.inr (sn_15 hw)))
  have f76 : Fld Z h_73 a1 "com/example/stubwright/stubwright/idl/Token" "position" "Lcom/example/stubwright/stubwright/SourcePosition;" (.ref ps) := (F_70.other W_73 (Or.inr (sn_16 hw)))
  exact Go.ret0 X_73 hx hlk hret (hb hby d_prog_36_method_2_code_25) (by decide) (by decide) (by rw [e_73]; exact ⟨rfl, N_73, KP_73, f74, f75, f76, F_73⟩)
--@E
--@C initT3
def Q_initT3 (Z : State) (zc : Int32) (kd0 : Addr) (kd1 : Addr) (kd2 : Addr) (kd3 : Addr) (kd4 : Addr) (kd5 : Addr) (kd6 : Addr) (kd7 : Addr) (kd8 : Addr) (kd9 : Addr) (kd10 : Addr) (kd11 : Addr) (kd12 : Addr) (kd13 : Addr) (kd14 : Addr) (kd15 : Addr) (kd16 : Addr) (kd17 : Addr) (a1 : Addr) (k1 : Addr) (t1 : Addr) (ps : Addr) (h0 : Heap) (n0 : Nat) (v : Option Value) (h : Heap) (L : List Loc) : Prop := v = none ∧ Fr n0 L ∧ Keep h0 h [a1] ∧ Fld Z h a1 "com/example/stubwright/stubwright/idl/Token" "kind" "Lcom/example/stubwright/stubwright/idl/Token$Kind;" (.ref k1) ∧ Fld Z h a1 "com/example/stubwright/stubwright/idl/Token" "text" "Ljava/lang/String;" (.ref t1) ∧ Fld Z h a1 "com/example/stubwright/stubwright/idl/Token" "position" "Lcom/example/stubwright/stubwright/SourcePosition;" (.ref ps) ∧ Fld Z h a1 "com/example/stubwright/stubwright/idl/Token" "escaped" "Z" (.int (0 : Int32))
set_option maxRecDepth 65536 in
set_option maxHeartbeats 40000000 in
theorem rm_initT3 (l : Launch) (Z : State) (a0 : Array Value) (hw : ∀ d ∈ tables_1, d.before a0 Z = true) (zc : Int32) (kd0 : Addr) (kd1 : Addr) (kd2 : Addr) (kd3 : Addr) (kd4 : Addr) (kd5 : Addr) (kd6 : Addr) (kd7 : Addr) (kd8 : Addr) (kd9 : Addr) (kd10 : Addr) (kd11 : Addr) (kd12 : Addr) (kd13 : Addr) (kd14 : Addr) (kd15 : Addr) (kd16 : Addr) (kd17 : Addr) (a1 : Addr) (k1 : Addr) (t1 : Addr) (ps : Addr) (h0 : Heap) (n0 : Nat) (Z0 : n0 ≤ h0.size) (E_a1 : Exa Z h0 a1 "com/example/stubwright/stubwright/idl/Token") (g_a1 : n0 ≤ a1) (F_kind : Fld Z h0 a1 "com/example/stubwright/stubwright/idl/Token" "kind" "Lcom/example/stubwright/stubwright/idl/Token$Kind;" .null) (F_text : Fld Z h0 a1 "com/example/stubwright/stubwright/idl/Token" "text" "Ljava/lang/String;" .null) (F_position : Fld Z h0 a1 "com/example/stubwright/stubwright/idl/Token" "position" "Lcom/example/stubwright/stubwright/SourcePosition;" .null) (F_escaped : Fld Z h0 a1 "com/example/stubwright/stubwright/idl/Token" "escaped" "Z" (.int (0 : Int32))) (hSt : St Z zc kd0 kd1 kd2 kd3 kd4 kd5 kd6 kd7 kd8 kd9 kd10 kd11 kd12 kd13 kd14 kd15 kd16 kd17) (hO : Old Z n0 h0) :
    CN l Z ({ cls := "com/example/stubwright/stubwright/idl/Token", name := "<init>", desc := "(Lcom/example/stubwright/stubwright/idl/Token$Kind;Ljava/lang/String;Lcom/example/stubwright/stubwright/SourcePosition;)V" } : Jvm.MethodName) [(Jvm.Cond.code ({ cls := "com/example/stubwright/stubwright/idl/Token", name := "<init>", desc := "(Lcom/example/stubwright/stubwright/idl/Token$Kind;Ljava/lang/String;Lcom/example/stubwright/stubwright/SourcePosition;)V" } : Jvm.MethodName) prog_36_method_1_code (4 : Nat) (Option.none : Option Jvm.ClassFile.FieldType))] ({ frames := 2, cells := 0, slots := 0, locals := 28 } : Room) #[(.ref a1), (.ref k1), (.ref t1), (.ref ps)] h0 (Q_initT3 Z zc kd0 kd1 kd2 kd3 kd4 kd5 kd6 kd7 kd8 kd9 kd10 kd11 kd12 kd13 kd14 kd15 kd16 kd17 a1 k1 t1 ps h0 n0) := by
  refine CN.of (L0 := #[.val (.ref a1), .val (.ref k1), .val (.ref t1), .val (.ref ps)]) (plainFor_of_name pn_4) (fun m => by first | (simp [entryFrame, mkF, argsToLocals, Value.category]; done) | rfl) ?_
  intro p e s m below meth c s₁ hx hby hml hret hlk hZ hown hnm X0 e0
  have N0 := Fr.nil n0
  have KP0 := Keep.refl h0 [a1]
  have hSt_ := hSt
  obtain ⟨S_cs, n_cs, S_kd0, S_kd1, S_kd2, S_kd3, S_kd4, S_kd5, S_kd6, S_kd7, S_kd8, S_kd9, S_kd10, S_kd11, S_kd12, S_kd13, S_kd14, S_kd15, S_kd16, S_kd17, ne_kd0, ne_kd2, ne_kd3, ne_kd4, ne_kd5, ne_kd6, ne_kd7, ne_kd8, ne_kd9, ne_kd10, ne_kd11, ne_kd12, ne_kd13, ne_kd14, ne_kd15, ne_kd16, ne_kd17⟩ := hSt_
  show Go p e below _ (s₁.setTop (mkF m 0 #[.val (.ref a1), .val (.ref k1), .val (.ref t1), .val (.ref ps)] []))
  refine Go.step (fun _ k => XS.aloadN X0.here hx rfl (hb hby d_prog_36_method_1_code_0) rfl rfl k) ?_
  show Go p e below _ (s₁.setTop (mkF m 1 #[.val (.ref a1), .val (.ref k1), .val (.ref t1), .val (.ref ps)] [(.ref a1)]))
  refine Go.step (fun _ k => XS.aloadN X0.here hx rfl (hb hby d_prog_36_method_1_code_1) rfl rfl k) ?_
  show Go p e below _ (s₁.setTop (mkF m 2 #[.val (.ref a1), .val (.ref k1), .val (.ref t1), .val (.ref ps)] [(.ref k1), (.ref a1)]))
  refine Go.step (fun _ k => XS.aloadN X0.here hx rfl (hb hby d_prog_36_method_1_code_2) rfl rfl k) ?_
  show Go p e below _ (s₁.setTop (mkF m 3 #[.val (.ref a1), .val (.ref k1), .val (.ref t1), .val (.ref ps)] [(.ref t1), (.ref k1), (.ref a1)]))
  refine Go.step (fun _ k => XS.aloadN X0.here hx rfl (hb hby d_prog_36_method_1_code_3) rfl rfl k) ?_
  show Go p e below _ (s₁.setTop (mkF m 4 #[.val (.ref a1), .val (.ref k1), .val (.ref t1), .val (.ref ps)] [(.ref ps), (.ref t1), (.ref k1), (.ref a1)]))
  refine Go.step (fun _ k => XS.iconst X0.here hx rfl (hb hby d_prog_36_method_1_code_4) k) ?_
  show Go p e below _ (s₁.setTop (mkF m 5 #[.val (.ref a1), .val (.ref k1), .val (.ref t1), .val (.ref ps)] [(.int (0 : Int32)), (.ref ps), (.ref t1), (.ref k1), (.ref a1)]))
  obtain ⟨v_77, T_77, L_77, X_77, hQ_77, st_77⟩ := goC X0 hx hZ (y := ({ cls := "com/example/stubwright/stubwright/idl/Token", name := "<init>", desc := "(Lcom/example/stubwright/stubwright/idl/Token$Kind;Ljava/lang/String;Lcom/example/stubwright/stubwright/SourcePosition;Z)V" } : Jvm.MethodName)) hown rfl (wd_70 hw) (wd_71 hw) (wd_72 hw) (by decide) (backOf (W := 0) (rm_initT4 l Z a0 hw zc kd0 kd1 kd2 kd3 kd4 kd5 kd6 kd7 kd8 kd9 kd10 kd11 kd12 kd13 kd14 kd15 kd16 kd17 (a1) (k1) (t1) (ps) h0 n0 (Nat.le_trans Z0 KP0.1) E_a1 g_a1 F_kind F_text F_position F_escaped hSt hO) hZ (wd_72 hw) (wd_60 hw) (by decide) (by decide)) e0 (g := (mkF m 5 #[.val (.ref a1), .val (.ref k1), .val (.ref t1), .val (.ref ps)] [(.int (0 : Int32)), (.ref ps), (.ref t1), (.ref k1), (.ref a1)])) rfl (by rw [hml]; rfl) (a := a1) (argsL := [(.ref k1), (.ref t1), (.ref ps), (.int (0 : Int32))]) (rest := []) rfl (lenOf pd_3 rfl) rfl (by show 2 * 0 + _ ≤ _; exact Nat.le_of_eq rfl) (hb hby d_prog_36_method_1_code_5) (by decide) (by decide)
  obtain ⟨rfl, Nq_77, K_77, u0_77, u1_77, u2_77, u3_77⟩ := hQ_77
  have N_77 := Fr.app N0 Nq_77
  have le_77 : h0.size ≤ T_77.heap.size := K_77.1
  have KP_77 := KP0.trans K_77 (allS (Or.inl (List.mem_of_getElem? (i := 0) rfl)) all0)
  have O_77 := hO.keep K_77 (allS g_a1 all0)
  refine Go.step st_77 ?_
  show Go p e below _ (T_77.setTop (mkF m 8 #[.val (.ref a1), .val (.ref k1), .val (.ref t1), .val (.ref ps)] []))
  exact Go.ret0 X_77 hx hlk hret (hb hby d_prog_36_method_1_code_8) (by decide) (by decide) (by exact ⟨rfl, N_77, KP_77, u0_77, u1_77, u2_77, u3_77⟩)
--@E
--@C kindOf
def Q_kindOf (Z : State) (zc : Int32) (kd0 : Addr) (kd1 : Addr) (kd2 : Addr) (kd3 : Addr) (kd4 : Addr) (kd5 : Addr) (kd6 : Addr) (kd7 : Addr) (kd8 : Addr) (kd9 : Addr) (kd10 : Addr) (kd11 : Addr) (kd12 : Addr) (kd13 : Addr) (kd14 : Addr) (kd15 : Addr) (kd16 : Addr) (kd17 : Addr) (p1 : Int32) (h0 : Heap) (n0 : Nat) (v : Option Value) (h : Heap) (L : List Loc) : Prop := ∃ (r : Addr), v = some (.ref r) ∧ Fr n0 L ∧ h = h0 ∧ ((p1 = 1 → r = kd1) ∧ (¬ p1 = 1 → r ≠ kd1))
set_option maxRecDepth 65536 in
set_option maxHeartbeats 40000000 in
theorem rm_kindOf (l : Launch) (Z : State) (a0 : Array Value) (hw : ∀ d ∈ tables_1, d.before a0 Z = true) (zc : Int32) (kd0 : Addr) (kd1 : Addr) (kd2 : Addr) (kd3 : Addr) (kd4 : Addr) (kd5 : Addr) (kd6 : Addr) (kd7 : Addr) (kd8 : Addr) (kd9 : Addr) (kd10 : Addr) (kd11 : Addr) (kd12 : Addr) (kd13 : Addr) (kd14 : Addr) (kd15 : Addr) (kd16 : Addr) (kd17 : Addr) (p1 : Int32) (h0 : Heap) (n0 : Nat) (Z0 : n0 ≤ h0.size) (hSt : St Z zc kd0 kd1 kd2 kd3 kd4 kd5 kd6 kd7 kd8 kd9 kd10 kd11 kd12 kd13 kd14 kd15 kd16 kd17) (hO : Old Z n0 h0) :
    CN l Z ({ cls := "com/example/stubwright/stubwright/idl/TokenIsKeywordPinLaw", name := "kindOf", desc := "(I)Lcom/example/stubwright/stubwright/idl/Token$Kind;" } : Jvm.MethodName) [(Jvm.Cond.code ({ cls := "com/example/stubwright/stubwright/idl/TokenIsKeywordPinLaw", name := "kindOf", desc := "(I)Lcom/example/stubwright/stubwright/idl/Token$Kind;" } : Jvm.MethodName) method_2_code (1 : Nat) (Option.some (Jvm.ClassFile.FieldType.object "com/example/stubwright/stubwright/idl/Token$Kind")))] ({ frames := 0, cells := 0, slots := 0, locals := 0 } : Room) #[(.int p1)] h0 (Q_kindOf Z zc kd0 kd1 kd2 kd3 kd4 kd5 kd6 kd7 kd8 kd9 kd10 kd11 kd12 kd13 kd14 kd15 kd16 kd17 p1 h0 n0) := by
  refine CN.of (L0 := #[.val (.int p1)]) (plainFor_of_name pn_1) (fun m => by first | (simp [entryFrame, mkF, argsToLocals, Value.category]; done) | rfl) ?_
  intro p e s m below meth c s₁ hx hby hml hret hlk hZ hown hnm X0 e0
  have N0 := Fr.nil n0
  have KP0 := Keep.refl h0 []
  have hSt_ := hSt
  obtain ⟨S_cs, n_cs, S_kd0, S_kd1, S_kd2, S_kd3, S_kd4, S_kd5, S_kd6, S_kd7, S_kd8, S_kd9, S_kd10, S_kd11, S_kd12, S_kd13, S_kd14, S_kd15, S_kd16, S_kd17, ne_kd0, ne_kd2, ne_kd3, ne_kd4, ne_kd5, ne_kd6, ne_kd7, ne_kd8, ne_kd9, ne_kd10, ne_kd11, ne_kd12, ne_kd13, ne_kd14, ne_kd15, ne_kd16, ne_kd17⟩ := hSt_
  show Go p e below _ (s₁.setTop (mkF m 0 #[.val (.int p1)] []))
  refine Go.step (fun _ k => XS.iloadN X0.here hx rfl (hb hby d_method_2_code_0) rfl  k) ?_
  show Go p e below _ (s₁.setTop (mkF m 1 #[.val (.int p1)] [(.int p1)]))
  by_cases u0 : p1 = (0 : Int32)
  · skip
    refine Go.step (fun _ k => XS.ifNo X0.here hx rfl (hb hby d_method_2_code_1) rfl ((if0 _ _).trans (teq u0).2) k) ?_
    show Go p e below _ (s₁.setTop (mkF m 4 #[.val (.int p1)] []))
    obtain ⟨T_78, X_78, e_78, st_78⟩ := getS2 X0 hx hZ hown (host := "") (Or.inl (wd_64 hw)) Via.refl e0 (S_kd0.ext hO.2) (g := (mkF m 4 #[.val (.int p1)] [])) rfl (hb hby d_method_2_code_4)
    refine Go.step st_78 ?_
    show Go p e below _ (T_78.setTop (mkF m 7 #[.val (.int p1)] [(.ref kd0)]))
    exact Go.retV X_78 hx hlk hret rfl (Or.inr (Or.inr (Or.inr (Or.inr ⟨rfl, rfl, rfl⟩)))) (hb hby d_method_2_code_7) (by decide) (by decide) (by rw [e_78]; exact ⟨kd0, rfl, N0, rfl, ⟨fun q => absurd (u0.symm.trans q) (by decide), fun _ => ne_kd0⟩⟩)
  · skip
    refine Go.step (fun _ k => XS.ifYes X0.here hx rfl (pc0 := 1) (pc' := 8) rfl (hb hby d_method_2_code_1) rfl ((if0 _ _).trans (feq u0).2) (by decide) (by decide) k) ?_
    show Go p e below _ (s₁.setTop (mkF m 8 #[.val (.int p1)] []))
    refine Go.step (fun _ k => XS.iloadN X0.here hx rfl (hb hby d_method_2_code_8) rfl  k) ?_
    show Go p e below _ (s₁.setTop (mkF m 9 #[.val (.int p1)] [(.int p1)]))
    refine Go.step (fun _ k => XS.iconst X0.here hx rfl (hb hby d_method_2_code_9) k) ?_
    show Go p e below _ (s₁.setTop (mkF m 10 #[.val (.int p1)] [(.int (1 : Int32)), (.int p1)]))
    by_cases u1 : p1 = (1 : Int32)
    · skip
      refine Go.step (fun _ k => XS.icmpNo X0.here hx rfl (hb hby d_method_2_code_10) rfl (teq u1).2 k) ?_
      show Go p e below _ (s₁.setTop (mkF m 13 #[.val (.int p1)] []))
      obtain ⟨T_79, X_79, e_79, st_79⟩ := getS2 X0 hx hZ hown (host := "") (Or.inl (wd_95 hw)) Via.refl e0 (S_kd1.ext hO.2) (g := (mkF m 13 #[.val (.int p1)] [])) rfl (hb hby d_method_2_code_13)
      refine Go.step st_79 ?_
      show Go p e below _ (T_79.setTop (mkF m 16 #[.val (.int p1)] [(.ref kd1)]))
      exact Go.retV X_79 hx hlk hret rfl (Or.inr (Or.inr (Or.inr (Or.inr ⟨rfl, rfl, rfl⟩)))) (hb hby d_method_2_code_16) (by decide) (by decide) (by rw [e_79]; exact ⟨kd1, rfl, N0, rfl, ⟨fun _ => rfl, fun q => absurd u1 q⟩⟩)
    · skip
      refine Go.step (fun _ k => XS.icmpYes X0.here hx rfl (pc0 := 10) (pc' := 17) rfl (hb hby d_method_2_code_10) rfl (feq u1).2 (by decide) (by decide) k) ?_
      show Go p e below _ (s₁.setTop (mkF m 17 #[.val (.int p1)] []))
      refine Go.step (fun _ k => XS.iloadN X0.here hx rfl (hb hby d_method_2_code_17) rfl  k) ?_
      show Go p e below _ (s₁.setTop (mkF m 18 #[.val (.int p1)] [(.int p1)]))
      refine Go.step (fun _ k => XS.iconst X0.here hx rfl (hb hby d_method_2_code_18) k) ?_
      show Go p e below _ (s₁.setTop (mkF m 19 #[.val (.int p1)] [(.int (2 : Int32)), (.int p1)]))
      by_cases u2 : p1 = (2 : Int32)
      · skip
        refine Go.step (fun _ k => XS.icmpNo X0.here hx rfl (hb hby d_method_2_code_19) rfl (teq u2).2 k) ?_
        show Go p e below _ (s₁.setTop (mkF m 22 #[.val (.int p1)] []))
        obtain ⟨T_80, X_80, e_80, st_80⟩ := getS2 X0 hx hZ hown (host := "") (Or.inl (wd_116 hw)) Via.refl e0 (S_kd2.ext hO.2) (g := (mkF m 22 #[.val (.int p1)] [])) rfl (hb hby d_method_2_code_22)
        refine Go.step st_80 ?_
        show Go p e below _ (T_80.setTop (mkF m 25 #[.val (.int p1)] [(.ref kd2)]))
        exact Go.retV X_80 hx hlk hret rfl (Or.inr (Or.inr (Or.inr (Or.inr ⟨rfl, rfl, rfl⟩)))) (hb hby d_method_2_code_25) (by decide) (by decide) (by rw [e_80]; exact ⟨kd2, rfl, N0, rfl, ⟨fun q => absurd q u1, fun _ => ne_kd2⟩⟩)
      · skip
        refine Go.step (fun _ k => XS.icmpYes X0.here hx rfl (pc0 := 19) (pc' := 26) rfl (hb hby d_method_2_code_19) rfl (feq u2).2 (by decide) (by decide) k) ?_
        show Go p e below _ (s₁.setTop (mkF m 26 #[.val (.int p1)] []))
        refine Go.step (fun _ k => XS.iloadN X0.here hx rfl (hb hby d_method_2_code_26) rfl  k) ?_
        show Go p e below _ (s₁.setTop (mkF m 27 #[.val (.int p1)] [(.int p1)]))
        refine Go.step (fun _ k => XS.iconst X0.here hx rfl (hb hby d_method_2_code_27) k) ?_
        show Go p e below _ (s₁.setTop (mkF m 28 #[.val (.int p1)] [(.int (3 : Int32)), (.int p1)]))
        by_cases u3 : p1 = (3 : Int32)
        · skip
          refine Go.step (fun _ k => XS.icmpNo X0.here hx rfl (hb hby d_method_2_code_28) rfl (teq u3).2 k) ?_
          show Go p e below _ (s₁.setTop (mkF m 31 #[.val (.int p1)] []))
          obtain ⟨T_81, X_81, e_81, st_81⟩ := getS2 X0 hx hZ hown (host := "") (Or.inl (wd_106 hw)) Via.refl e0 (S_kd3.ext hO.2) (g := (mkF m 31 #[.val (.int p1)] [])) rfl (hb hby d_method_2_code_31)
          refine Go.step st_81 ?_
          show Go p e below _ (T_81.setTop (mkF m 34 #[.val (.int p1)] [(.ref kd3)]))
          exact Go.retV X_81 hx hlk hret rfl (Or.inr (Or.inr (Or.inr (Or.inr ⟨rfl, rfl, rfl⟩)))) (hb hby d_method_2_code_34) (by decide) (by decide) (by rw [e_81]; exact ⟨kd3, rfl, N0, rfl, ⟨fun q => absurd q u1, fun _ => ne_kd3⟩⟩)
        · skip
          refine Go.step (fun _ k => XS.icmpYes X0.here hx rfl (pc0 := 28) (pc' := 35) rfl (hb hby d_method_2_code_28) rfl (feq u3).2 (by decide) (by decide) k) ?_
          show Go p e below _ (s₁.setTop (mkF m 35 #[.val (.int p1)] []))
          refine Go.step (fun _ k => XS.iloadN X0.here hx rfl (hb hby d_method_2_code_35) rfl  k) ?_
          show Go p e below _ (s₁.setTop (mkF m 36 #[.val (.int p1)] [(.int p1)]))
          refine Go.step (fun _ k => XS.iconst X0.here hx rfl (hb hby d_method_2_code_36) k) ?_
          show Go p e below _ (s₁.setTop (mkF m 37 #[.val (.int p1)] [(.int (4 : Int32)), (.int p1)]))
          by_cases u4 : p1 = (4 : Int32)
          · skip
            refine Go.step (fun _ k => XS.icmpNo X0.here hx rfl (hb hby d_method_2_code_37) rfl (teq u4).2 k) ?_
            show Go p e below _ (s₁.setTop (mkF m 40 #[.val (.int p1)] []))
            obtain ⟨T_82, X_82, e_82, st_82⟩ := getS2 X0 hx hZ hown (host := "") (Or.inl (wd_120 hw)) Via.refl e0 (S_kd4.ext hO.2) (g := (mkF m 40 #[.val (.int p1)] [])) rfl (hb hby d_method_2_code_40)
            refine Go.step st_82 ?_
            show Go p e below _ (T_82.setTop (mkF m 43 #[.val (.int p1)] [(.ref kd4)]))
            exact Go.retV X_82 hx hlk hret rfl (Or.inr (Or.inr (Or.inr (Or.inr ⟨rfl, rfl, rfl⟩)))) (hb hby d_method_2_code_43) (by decide) (by decide) (by rw [e_82]; exact ⟨kd4, rfl, N0, rfl, ⟨fun q => absurd q u1, fun _ => ne_kd4⟩⟩)
          · skip
            refine Go.step (fun _ k => XS.icmpYes X0.here hx rfl (pc0 := 37) (pc' := 44) rfl (hb hby d_method_2_code_37) rfl (feq u4).2 (by decide) (by decide) k) ?_
            show Go p e below _ (s₁.setTop (mkF m 44 #[.val (.int p1)] []))
            refine Go.step (fun _ k => XS.iloadN X0.here hx rfl (hb hby d_method_2_code_44) rfl  k) ?_
            show Go p e below _ (s₁.setTop (mkF m 45 #[.val (.int p1)] [(.int p1)]))
            refine Go.step (fun _ k => XS.iconst X0.here hx rfl (hb hby d_method_2_code_45) k) ?_
            show Go p e below _ (s₁.setTop (mkF m 46 #[.val (.int p1)] [(.int (5 : Int32)), (.int p1)]))
            by_cases u5 : p1 = (5 : Int32)
            · skip
              refine Go.step (fun _ k => XS.icmpNo X0.here hx rfl (hb hby d_method_2_code_46) rfl (teq u5).2 k) ?_
              show Go p e below _ (s₁.setTop (mkF m 49 #[.val (.int p1)] []))
              obtain ⟨T_83, X_83, e_83, st_83⟩ := getS2 X0 hx hZ hown (host := "") (Or.inl (wd_124 hw)) Via.refl e0 (S_kd5.ext hO.2) (g := (mkF m 49 #[.val (.int p1)] [])) rfl (hb hby d_method_2_code_49)
              refine Go.step st_83 ?_
              show Go p e below _ (T_83.setTop (mkF m 52 #[.val (.int p1)] [(.ref kd5)]))
              exact Go.retV X_83 hx hlk hret rfl (Or.inr (Or.inr (Or.inr (Or.inr ⟨rfl, rfl, rfl⟩)))) (hb hby d_method_2_code_52) (by decide) (by decide) (by rw [e_83]; exact ⟨kd5, rfl, N0, rfl, ⟨fun q => absurd q u1, fun _ => ne_kd5⟩⟩)
            · skip
              refine Go.step (fun _ k => XS.icmpYes X0.here hx rfl (pc0 := 46) (pc' := 53) rfl (hb hby d_method_2_code_46) rfl (feq u5).2 (by decide) (by decide) k) ?_
              show Go p e below _ (s₁.setTop (mkF m 53 #[.val (.int p1)] []))
              refine Go.step (fun _ k => XS.iloadN X0.here hx rfl (hb hby d_method_2_code_53) rfl  k) ?_
              show Go p e below _ (s₁.setTop (mkF m 54 #[.val (.int p1)] [(.int p1)]))
              refine Go.step (fun _ k => XS.bipush X0.here hx rfl (hb hby d_method_2_code_54) k) ?_
              show Go p e below _ (s₁.setTop (mkF m 56 #[.val (.int p1)] [(.int (6 : Int32)), (.int p1)]))
              by_cases u6 : p1 = (6 : Int32)
              · skip
                refine Go.step (fun _ k => XS.icmpNo X0.here hx rfl (hb hby d_method_2_code_56) rfl (teq u6).2 k) ?_
                show Go p e below _ (s₁.setTop (mkF m 59 #[.val (.int p1)] []))
                obtain ⟨T_84, X_84, e_84, st_84⟩ := getS2 X0 hx hZ hown (host := "") (Or.inl (wd_128 hw)) Via.refl e0 (S_kd6.ext hO.2) (g := (mkF m 59 #[.val (.int p1)] [])) rfl (hb hby d_method_2_code_59)
                refine Go.step st_84 ?_
                show Go p e below _ (T_84.setTop (mkF m 62 #[.val (.int p1)] [(.ref kd6)]))
                exact Go.retV X_84 hx hlk hret rfl (Or.inr (Or.inr (Or.inr (Or.inr ⟨rfl, rfl, rfl⟩)))) (hb hby d_method_2_code_62) (by decide) (by decide) (by rw [e_84]; exact ⟨kd6, rfl, N0, rfl, ⟨fun q => absurd q u1, fun _ => ne_kd6⟩⟩)
              · skip
                refine Go.step (fun _ k => XS.icmpYes X0.here hx rfl (pc0 := 56) (pc' := 63) rfl (hb hby d_method_2_code_56) rfl (feq u6).2 (by decide) (by decide) k) ?_
                show Go p e below _ (s₁.setTop (mkF m 63 #[.val (.int p1)] []))
                refine Go.step (fun _ k => XS.iloadN X0.here hx rfl (hb hby d_method_2_code_63) rfl  k) ?_
                show Go p e below _ (s₁.setTop (mkF m 64 #[.val (.int p1)] [(.int p1)]))
                refine Go.step (fun _ k => XS.bipush X0.here hx rfl (hb hby d_method_2_code_64) k) ?_
                show Go p e below _ (s₁.setTop (mkF m 66 #[.val (.int p1)] [(.int (7 : Int32)), (.int p1)]))
                by_cases u7 : p1 = (7 : Int32)
                · skip
                  refine Go.step (fun _ k => XS.icmpNo X0.here hx rfl (hb hby d_method_2_code_66) rfl (teq u7).2 k) ?_
                  show Go p e below _ (s₁.setTop (mkF m 69 #[.val (.int p1)] []))
                  obtain ⟨T_85, X_85, e_85, st_85⟩ := getS2 X0 hx hZ hown (host := "") (Or.inl (wd_91 hw)) Via.refl e0 (S_kd7.ext hO.2) (g := (mkF m 69 #[.val (.int p1)] [])) rfl (hb hby d_method_2_code_69)
                  refine Go.step st_85 ?_
                  show Go p e below _ (T_85.setTop (mkF m 72 #[.val (.int p1)] [(.ref kd7)]))
                  exact Go.retV X_85 hx hlk hret rfl (Or.inr (Or.inr (Or.inr (Or.inr ⟨rfl, rfl, rfl⟩)))) (hb hby d_method_2_code_72) (by decide) (by decide) (by rw [e_85]; exact ⟨kd7, rfl, N0, rfl, ⟨fun q => absurd q u1, fun _ => ne_kd7⟩⟩)
                · skip
                  refine Go.step (fun _ k => XS.icmpYes X0.here hx rfl (pc0 := 66) (pc' := 73) rfl (hb hby d_method_2_code_66) rfl (feq u7).2 (by decide) (by decide) k) ?_
                  show Go p e below _ (s₁.setTop (mkF m 73 #[.val (.int p1)] []))
                  refine Go.step (fun _ k => XS.iloadN X0.here hx rfl (hb hby d_method_2_code_73) rfl  k) ?_
                  show Go p e below _ (s₁.setTop (mkF m 74 #[.val (.int p1)] [(.int p1)]))
                  refine Go.step (fun _ k => XS.bipush X0.here hx rfl (hb hby d_method_2_code_74) k) ?_
                  show Go p e below _ (s₁.setTop (mkF m 76 #[.val (.int p1)] [(.int (8 : Int32)), (.int p1)]))
                  by_cases u8 : p1 = (8 : Int32)
                  · skip
                    refine Go.step (fun _ k => XS.icmpNo X0.here hx rfl (hb hby d_method_2_code_76) rfl (teq u8).2 k) ?_
                    show Go p e below _ (s₁.setTop (mkF m 79 #[.val (.int p1)] []))
                    obtain ⟨T_86, X_86, e_86, st_86⟩ := getS2 X0 hx hZ hown (host := "") (Or.inl (wd_114 hw)) Via.refl e0 (S_kd8.ext hO.2) (g := (mkF m 79 #[.val (.int p1)] [])) rfl (hb hby d_method_2_code_79)
                    refine Go.step st_86 ?_
                    show Go p e below _ (T_86.setTop (mkF m 82 #[.val (.int p1)] [(.ref kd8)]))
                    exact Go.retV X_86 hx hlk hret rfl (Or.inr (Or.inr (Or.inr (Or.inr ⟨rfl, rfl, rfl⟩)))) (hb hby d_method_2_code_82) (by decide) (by decide) (by rw [e_86]; exact ⟨kd8, rfl, N0, rfl, ⟨fun q => absurd q u1, fun _ => ne_kd8⟩⟩)
                  · skip
                    refine Go.step (fun _ k => XS.icmpYes X0.here hx rfl (pc0 := 76) (pc' := 83) rfl (hb hby d_method_2_code_76) rfl (feq u8).2 (by decide) (by decide) k) ?_
                    show Go p e below _ (s₁.setTop (mkF m 83 #[.val (.int p1)] []))
                    refine Go.step (fun _ k => XS.iloadN X0.here hx rfl (hb hby d_method_2_code_83) rfl  k) ?_
                    show Go p e below _ (s₁.setTop (mkF m 84 #[.val (.int p1)] [(.int p1)]))
                    refine Go.step (fun _ k => XS.bipush X0.here hx rfl (hb hby d_method_2_code_84) k) ?_
                    show Go p e below _ (s₁.setTop (mkF m 86 #[.val (.int p1)] [(.int (9 : Int32)), (.int p1)]))
                    by_cases u9 : p1 = (9 : Int32)
                    · skip
                      refine Go.step (fun _ k => XS.icmpNo X0.here hx rfl (hb hby d_method_2_code_86) rfl (teq u9).2 k) ?_
                      show Go p e below _ (s₁.setTop (mkF m 89 #[.val (.int p1)] []))
                      obtain ⟨T_87, X_87, e_87, st_87⟩ := getS2 X0 hx hZ hown (host := "") (Or.inl (wd_110 hw)) Via.refl e0 (S_kd9.ext hO.2) (g := (mkF m 89 #[.val (.int p1)] [])) rfl (hb hby d_method_2_code_89)
                      refine Go.step st_87 ?_
                      show Go p e below _ (T_87.setTop (mkF m 92 #[.val (.int p1)] [(.ref kd9)]))
                      exact Go.retV X_87 hx hlk hret rfl (Or.inr (Or.inr (Or.inr (Or.inr ⟨rfl, rfl, rfl⟩)))) (hb hby d_method_2_code_92) (by decide) (by decide) (by rw [e_87]; exact ⟨kd9, rfl, N0, rfl, ⟨fun q => absurd q u1, fun _ => ne_kd9⟩⟩)
                    · skip
                      refine Go.step (fun _ k => XS.icmpYes X0.here hx rfl (pc0 := 86) (pc' := 93) rfl (hb hby d_method_2_code_86) rfl (feq u9).2 (by decide) (by decide) k) ?_
                      show Go p e below _ (s₁.setTop (mkF m 93 #[.val (.int p1)] []))
                      refine Go.step (fun _ k => XS.iloadN X0.here hx rfl (hb hby d_method_2_code_93) rfl  k) ?_
                      show Go p e below _ (s₁.setTop (mkF m 94 #[.val (.int p1)] [(.int p1)]))
                      refine Go.step (fun _ k => XS.bipush X0.here hx rfl (hb hby d_method_2_code_94) k) ?_
                      show Go p e below _ (s₁.setTop (mkF m 96 #[.val (.int p1)] [(.int (10 : Int32)), (.int p1)]))
                      by_cases u10 : p1 = (10 : Int32)
                      · skip
                        refine Go.step (fun _ k => XS.icmpNo X0.here hx rfl (hb hby d_method_2_code_96) rfl (teq u10).2 k) ?_
                        show Go p e below _ (s₁.setTop (mkF m 99 #[.val (.int p1)] []))
                        obtain ⟨T_88, X_88, e_88, st_88⟩ := getS2 X0 hx hZ hown (host := "") (Or.inl (wd_93 hw)) Via.refl e0 (S_kd10.ext hO.2) (g := (mkF m 99 #[.val (.int p1)] [])) rfl (hb hby d_method_2_code_99)
                        refine Go.step st_88 ?_
                        show Go p e below _ (T_88.setTop (mkF m 102 #[.val (.int p1)] [(.ref kd10)]))
                        exact Go.retV X_88 hx hlk hret rfl (Or.inr (Or.inr (Or.inr (Or.inr ⟨rfl, rfl, rfl⟩)))) (hb hby d_method_2_code_102) (by decide) (by decide) (by rw [e_88]; exact ⟨kd10, rfl, N0, rfl, ⟨fun q => absurd q u1, fun _ => ne_kd10⟩⟩)
                      · skip
                        refine Go.step (fun _ k => XS.icmpYes X0.here hx rfl (pc0 := 96) (pc' := 103) rfl (hb hby d_method_2_code_96) rfl (feq u10).2 (by decide) (by decide) k) ?_
                        show Go p e below _ (s₁.setTop (mkF m 103 #[.val (.int p1)] []))
                        refine Go.step (fun _ k => XS.iloadN X0.here hx rfl (hb hby d_method_2_code_103) rfl  k) ?_
                        show Go p e below _ (s₁.setTop (mkF m 104 #[.val (.int p1)] [(.int p1)]))
                        refine Go.step (fun _ k => XS.bipush X0.here hx rfl (hb hby d_method_2_code_104) k) ?_
                        show Go p e below _ (s₁.setTop (mkF m 106 #[.val (.int p1)] [(.int (11 : Int32)), (.int p1)]))
                        by_cases u11 : p1 = (11 : Int32)
                        · skip
                          refine Go.step (fun _ k => XS.icmpNo X0.here hx rfl (hb hby d_method_2_code_106) rfl (teq u11).2 k) ?_
                          show Go p e below _ (s₁.setTop (mkF m 109 #[.val (.int p1)] []))
                          obtain ⟨T_89, X_89, e_89, st_89⟩ := getS2 X0 hx hZ hown (host := "") (Or.inl (wd_108 hw)) Via.refl e0 (S_kd11.ext hO.2) (g := (mkF m 109 #[.val (.int p1)] [])) rfl (hb hby d_method_2_code_109)
                          refine Go.step st_89 ?_
                          show Go p e below _ (T_89.setTop (mkF m 112 #[.val (.int p1)] [(.ref kd11)]))
                          exact Go.retV X_89 hx hlk hret rfl (Or.inr (Or.inr (Or.inr (Or.inr ⟨rfl, rfl, rfl⟩)))) (hb hby d_method_2_code_112) (by decide) (by decide) (by rw [e_89]; exact ⟨kd11, rfl, N0, rfl, ⟨fun q => absurd q u1, fun _ => ne_kd11⟩⟩)
                        · skip
                          refine Go.step (fun _ k => XS.icmpYes X0.here hx rfl (pc0 := 106) (pc' := 113) rfl (hb hby d_method_2_code_106) rfl (feq u11).2 (by decide) (by decide) k) ?_
                          show Go p e below _ (s₁.setTop (mkF m 113 #[.val (.int p1)] []))
                          refine Go.step (fun _ k => XS.iloadN X0.here hx rfl (hb hby d_method_2_code_113) rfl  k) ?_
                          show Go p e below _ (s₁.setTop (mkF m 114 #[.val (.int p1)] [(.int p1)]))
                          refine Go.step (fun _ k => XS.bipush X0.here hx rfl (hb hby d_method_2_code_114) k) ?_
                          show Go p e below _ (s₁.setTop (mkF m 116 #[.val (.int p1)] [(.int (12 : Int32)), (.int p1)]))
                          by_cases u12 : p1 = (12 : Int32)
                          · skip
                            refine Go.step (fun _ k => XS.icmpNo X0.here hx rfl (hb hby d_method_2_code_116) rfl (teq u12).2 k) ?_
                            show Go p e below _ (s₁.setTop (mkF m 119 #[.val (.int p1)] []))
                            obtain ⟨T_90, X_90, e_90, st_90⟩ := getS2 X0 hx hZ hown (host := "") (Or.inl (wd_89 hw)) Via.refl e0 (S_kd12.ext hO.2) (g := (mkF m 119 #[.val (.int p1)] [])) rfl (hb hby d_method_2_code_119)
                            refine Go.step st_90 ?_
                            show Go p e below _ (T_90.setTop (mkF m 122 #[.val (.int p1)] [(.ref kd12)]))
                            exact Go.retV X_90 hx hlk hret rfl (Or.inr (Or.inr (Or.inr (Or.inr ⟨rfl, rfl, rfl⟩)))) (hb hby d_method_2_code_122) (by decide) (by decide) (by rw [e_90]; exact ⟨kd12, rfl, N0, rfl, ⟨fun q => absurd q u1, fun _ => ne_kd12⟩⟩)
                          · skip
                            refine Go.step (fun _ k => XS.icmpYes X0.here hx rfl (pc0 := 116) (pc' := 123) rfl (hb hby d_method_2_code_116) rfl (feq u12).2 (by decide) (by decide) k) ?_
                            show Go p e below _ (s₁.setTop (mkF m 123 #[.val (.int p1)] []))
                            refine Go.step (fun _ k => XS.iloadN X0.here hx rfl (hb hby d_method_2_code_123) rfl  k) ?_
                            show Go p e below _ (s₁.setTop (mkF m 124 #[.val (.int p1)] [(.int p1)]))
                            refine Go.step (fun _ k => XS.bipush X0.here hx rfl (hb hby d_method_2_code_124) k) ?_
                            show Go p e below _ (s₁.setTop (mkF m 126 #[.val (.int p1)] [(.int (13 : Int32)), (.int p1)]))
                            by_cases u13 : p1 = (13 : Int32)
                            · skip
                              refine Go.step (fun _ k => XS.icmpNo X0.here hx rfl (hb hby d_method_2_code_126) rfl (teq u13).2 k) ?_
                              show Go p e below _ (s₁.setTop (mkF m 129 #[.val (.int p1)] []))
                              obtain ⟨T_91, X_91, e_91, st_91⟩ := getS2 X0 hx hZ hown (host := "") (Or.inl (wd_118 hw)) Via.refl e0 (S_kd13.ext hO.2) (g := (mkF m 129 #[.val (.int p1)] [])) rfl (hb hby d_method_2_code_129)
                              refine Go.step st_91 ?_
                              show Go p e below _ (T_91.setTop (mkF m 132 #[.val (.int p1)] [(.ref kd13)]))
                              exact Go.retV X_91 hx hlk hret rfl (Or.inr (Or.inr (Or.inr (Or.inr ⟨rfl, rfl, rfl⟩)))) (hb hby d_method_2_code_132) (by decide) (by decide) (by rw [e_91]; exact ⟨kd13, rfl, N0, rfl, ⟨fun q => absurd q u1, fun _ => ne_kd13⟩⟩)
                            · skip
                              refine Go.step (fun _ k => XS.icmpYes X0.here hx rfl (pc0 := 126) (pc' := 133) rfl (hb hby d_method_2_code_126) rfl (feq u13).2 (by decide) (by decide) k) ?_
                              show Go p e below _ (s₁.setTop (mkF m 133 #[.val (.int p1)] []))
                              refine Go.step (fun _ k => XS.iloadN X0.here hx rfl (hb hby d_method_2_code_133) rfl  k) ?_
                              show Go p e below _ (s₁.setTop (mkF m 134 #[.val (.int p1)] [(.int p1)]))
                              refine Go.step (fun _ k => XS.bipush X0.here hx rfl (hb hby d_method_2_code_134) k) ?_
                              show Go p e below _ (s₁.setTop (mkF m 136 #[.val (.int p1)] [(.int (14 : Int32)), (.int p1)]))
                              by_cases u14 : p1 = (14 : Int32)
                              · skip
                                refine Go.step (fun _ k => XS.icmpNo X0.here hx rfl (hb hby d_method_2_code_136) rfl (teq u14).2 k) ?_
                                show Go p e below _ (s₁.setTop (mkF m 139 #[.val (.int p1)] []))
                                obtain ⟨T_92, X_92, e_92, st_92⟩ := getS2 X0 hx hZ hown (host := "") (Or.inl (wd_126 hw)) Via.refl e0 (S_kd14.ext hO.2) (g := (mkF m 139 #[.val (.int p1)] [])) rfl (hb hby d_method_2_code_139)
                                refine Go.step st_92 ?_
                                show Go p e below _ (T_92.setTop (mkF m 142 #[.val (.int p1)] [(.ref kd14)]))
                                exact Go.retV X_92 hx hlk hret rfl (Or.inr (Or.inr (Or.inr (Or.inr ⟨rfl, rfl, rfl⟩)))) (hb hby d_method_2_code_142) (by decide) (by decide) (by rw [e_92]; exact ⟨kd14, rfl, N0, rfl, ⟨fun q => absurd q u1, fun _ => ne_kd14⟩⟩)
                              · skip
                                refine Go.step (fun _ k => XS.icmpYes X0.here hx rfl (pc0 := 136) (pc' := 143) rfl (hb hby d_method_2_code_136) rfl (feq u14).2 (by decide) (by decide) k) ?_
                                show Go p e below _ (s₁.setTop (mkF m 143 #[.val (.int p1)] []))
                                refine Go.step (fun _ k => XS.iloadN X0.here hx rfl (hb hby d_method_2_code_143) rfl  k) ?_
                                show Go p e below _ (s₁.setTop (mkF m 144 #[.val (.int p1)] [(.int p1)]))
                                refine Go.step (fun _ k => XS.bipush X0.here hx rfl (hb hby d_method_2_code_144) k) ?_
                                show Go p e below _ (s₁.setTop (mkF m 146 #[.val (.int p1)] [(.int (15 : Int32)), (.int p1)]))
                                by_cases u15 : p1 = (15 : Int32)
                                · skip
                                  refine Go.step (fun _ k => XS.icmpNo X0.here hx rfl (hb hby d_method_2_code_146) rfl (teq u15).2 k) ?_
                                  show Go p e below _ (s₁.setTop (mkF m 149 #[.val (.int p1)] []))
                                  obtain ⟨T_93, X_93, e_93, st_93⟩ := getS2 X0 hx hZ hown (host := "") (Or.inl (wd_130 hw)) Via.refl e0 (S_kd15.ext hO.2) (g := (mkF m 149 #[.val (.int p1)] [])) rfl (hb hby d_method_2_code_149)
                                  refine Go.step st_93 ?_
                                  show Go p e below _ (T_93.setTop (mkF m 152 #[.val (.int p1)] [(.ref kd15)]))
                                  exact Go.retV X_93 hx hlk hret rfl (Or.inr (Or.inr (Or.inr (Or.inr ⟨rfl, rfl, rfl⟩)))) (hb hby d_method_2_code_152) (by decide) (by decide) (by rw [e_93]; exact ⟨kd15, rfl, N0, rfl, ⟨fun q => absurd q u1, fun _ => ne_kd15⟩⟩)
                                · skip
                                  refine Go.step (fun _ k => XS.icmpYes X0.here hx rfl (pc0 := 146) (pc' := 153) rfl (hb hby d_method_2_code_146) rfl (feq u15).2 (by decide) (by decide) k) ?_
                                  show Go p e below _ (s₁.setTop (mkF m 153 #[.val (.int p1)] []))
                                  refine Go.step (fun _ k => XS.iloadN X0.here hx rfl (hb hby d_method_2_code_153) rfl  k) ?_
                                  show Go p e below _ (s₁.setTop (mkF m 154 #[.val (.int p1)] [(.int p1)]))
                                  refine Go.step (fun _ k => XS.bipush X0.here hx rfl (hb hby d_method_2_code_154) k) ?_
                                  show Go p e below _ (s₁.setTop (mkF m 156 #[.val (.int p1)] [(.int (16 : Int32)), (.int p1)]))
                                  by_cases u16 : p1 = (16 : Int32)
                                  · skip
                                    refine Go.step (fun _ k => XS.icmpNo X0.here hx rfl (hb hby d_method_2_code_156) rfl (teq u16).2 k) ?_
                                    show Go p e below _ (s₁.setTop (mkF m 159 #[.val (.int p1)] []))
                                    obtain ⟨T_94, X_94, e_94, st_94⟩ := getS2 X0 hx hZ hown (host := "") (Or.inl (wd_112 hw)) Via.refl e0 (S_kd16.ext hO.2) (g := (mkF m 159 #[.val (.int p1)] [])) rfl (hb hby d_method_2_code_159)
                                    refine Go.step st_94 ?_
                                    show Go p e below _ (T_94.setTop (mkF m 162 #[.val (.int p1)] [(.ref kd16)]))
                                    exact Go.retV X_94 hx hlk hret rfl (Or.inr (Or.inr (Or.inr (Or.inr ⟨rfl, rfl, rfl⟩)))) (hb hby d_method_2_code_162) (by decide) (by decide) (by rw [e_94]; exact ⟨kd16, rfl, N0, rfl, ⟨fun q => absurd q u1, fun _ => ne_kd16⟩⟩)
                                  · skip
                                    refine Go.step (fun _ k => XS.icmpYes X0.here hx rfl (pc0 := 156) (pc' := 163) rfl (hb hby d_method_2_code_156) rfl (feq u16).2 (by decide) (by decide) k) ?_
                                    show Go p e below _ (s₁.setTop (mkF m 163 #[.val (.int p1)] []))
                                    obtain ⟨T_95, X_95, e_95, st_95⟩ := getS2 X0 hx hZ hown (host := "") (Or.inl (wd_122 hw)) Via.refl e0 (S_kd17.ext hO.2) (g := (mkF m 163 #[.val (.int p1)] [])) rfl (hb hby d_method_2_code_163)
                                    refine Go.step st_95 ?_
                                    show Go p e below _ (T_95.setTop (mkF m 166 #[.val (.int p1)] [(.ref kd17)]))
                                    exact Go.retV X_95 hx hlk hret rfl (Or.inr (Or.inr (Or.inr (Or.inr ⟨rfl, rfl, rfl⟩)))) (hb hby d_method_2_code_166) (by decide) (by decide) (by rw [e_95]; exact ⟨kd17, rfl, N0, rfl, ⟨fun q => absurd q u1, fun _ => ne_kd17⟩⟩)
--@E
--@C isKw
def Q_isKw (Z : State) (zc : Int32) (kd0 : Addr) (kd1 : Addr) (kd2 : Addr) (kd3 : Addr) (kd4 : Addr) (kd5 : Addr) (kd6 : Addr) (kd7 : Addr) (kd8 : Addr) (kd9 : Addr) (kd10 : Addr) (kd11 : Addr) (kd12 : Addr) (kd13 : Addr) (kd14 : Addr) (kd15 : Addr) (kd16 : Addr) (kd17 : Addr) (a1 : Addr) (k1 : Addr) (t1 : Addr) (s1 : Addr) (cs : List Int32) (ds : List Int32) (h0 : Heap) (n0 : Nat) (v : Option Value) (h : Heap) (L : List Loc) : Prop := v = some (.int (if k1 = kd1 ∧ cs = ds then (1 : Int32) else 0)) ∧ Fr n0 L ∧ h = h0
set_option maxRecDepth 65536 in
set_option maxHeartbeats 40000000 in
theorem rm_isKw (l : Launch) (Z : State) (a0 : Array Value) (hw : ∀ d ∈ tables_1, d.before a0 Z = true) (zc : Int32) (kd0 : Addr) (kd1 : Addr) (kd2 : Addr) (kd3 : Addr) (kd4 : Addr) (kd5 : Addr) (kd6 : Addr) (kd7 : Addr) (kd8 : Addr) (kd9 : Addr) (kd10 : Addr) (kd11 : Addr) (kd12 : Addr) (kd13 : Addr) (kd14 : Addr) (kd15 : Addr) (kd16 : Addr) (kd17 : Addr) (a1 : Addr) (k1 : Addr) (t1 : Addr) (s1 : Addr) (cs : List Int32) (ds : List Int32) (h0 : Heap) (n0 : Nat) (Z0 : n0 ≤ h0.size) (F_k : Fld Z h0 a1 "com/example/stubwright/stubwright/idl/Token" "kind" "Lcom/example/stubwright/stubwright/idl/Token$Kind;" (.ref k1)) (F_t : Fld Z h0 a1 "com/example/stubwright/stubwright/idl/Token" "text" "Ljava/lang/String;" (.ref t1)) (S_t1 : Str Z h0.size h0 t1 cs) (S_s1 : Str Z h0.size h0 s1 ds) (hSt : St Z zc kd0 kd1 kd2 kd3 kd4 kd5 kd6 kd7 kd8 kd9 kd10 kd11 kd12 kd13 kd14 kd15 kd16 kd17) (hO : Old Z n0 h0) :
    CN l Z ({ cls := "com/example/stubwright/stubwright/idl/Token", name := "isKeyword", desc := "(Ljava/lang/String;)Z" } : Jvm.MethodName) [(Jvm.Cond.code ({ cls := "com/example/stubwright/stubwright/idl/Token", name := "isKeyword", desc := "(Ljava/lang/String;)Z" } : Jvm.MethodName) prog_36_method_10_code (2 : Nat) (Option.some Jvm.ClassFile.FieldType.boolean))] ({ frames := 2, cells := 0, slots := 0, locals := 28 } : Room) #[(.ref a1), (.ref s1)] h0 (Q_isKw Z zc kd0 kd1 kd2 kd3 kd4 kd5 kd6 kd7 kd8 kd9 kd10 kd11 kd12 kd13 kd14 kd15 kd16 kd17 a1 k1 t1 s1 cs ds h0 n0) := by
  refine CN.of (L0 := #[.val (.ref a1), .val (.ref s1)]) (plainFor_of_name pn_4) (fun m => by first | (simp [entryFrame, mkF, argsToLocals, Value.category]; done) | rfl) ?_
  intro p e s m below meth c s₁ hx hby hml hret hlk hZ hown hnm X0 e0
  have N0 := Fr.nil n0
  have KP0 := Keep.refl h0 []
  have hSt_ := hSt
  obtain ⟨S_cs, n_cs, S_kd0, S_kd1, S_kd2, S_kd3, S_kd4, S_kd5, S_kd6, S_kd7, S_kd8, S_kd9, S_kd10, S_kd11, S_kd12, S_kd13, S_kd14, S_kd15, S_kd16, S_kd17, ne_kd0, ne_kd2, ne_kd3, ne_kd4, ne_kd5, ne_kd6, ne_kd7, ne_kd8, ne_kd9, ne_kd10, ne_kd11, ne_kd12, ne_kd13, ne_kd14, ne_kd15, ne_kd16, ne_kd17⟩ := hSt_
  show Go p e below _ (s₁.setTop (mkF m 0 #[.val (.ref a1), .val (.ref s1)] []))
  refine Go.step (fun _ k => XS.aloadN X0.here hx rfl (hb hby d_prog_36_method_10_code_0) rfl rfl k) ?_
  show Go p e below _ (s₁.setTop (mkF m 1 #[.val (.ref a1), .val (.ref s1)] [(.ref a1)]))
  obtain ⟨T_96, X_96, e_96, st_96⟩ := getF X0 hx hZ hown (host := "") (Or.inl (wd_74 hw)) Via.refl e0 F_k (g := (mkF m 1 #[.val (.ref a1), .val (.ref s1)] [(.ref a1)])) rfl rfl (hb hby d_prog_36_method_10_code_1)
  refine Go.step st_96 ?_
  show Go p e below _ (T_96.setTop (mkF m 4 #[.val (.ref a1), .val (.ref s1)] [(.ref k1)]))
  obtain ⟨T_97, X_97, e_97, st_97⟩ := getS2 X_96 hx hZ hown (host := "") (Or.inl (wd_87 hw)) Via.refl e_96 (S_kd1.ext hO.2) (g := (mkF m 4 #[.val (.ref a1), .val (.ref s1)] [(.ref k1)])) rfl (hb hby d_prog_36_method_10_code_4)
  refine Go.step st_97 ?_
  show Go p e below _ (T_97.setTop (mkF m 7 #[.val (.ref a1), .val (.ref s1)] [(.ref kd1), (.ref k1)]))
  by_cases hk : k1 = kd1
  · skip
    refine Go.step (fun _ k => Jvm.RoadKit.acmp (g := (mkF m 7 #[.val (.ref a1), .val (.ref s1)] [(.ref kd1), (.ref k1)])) X_97 hx rfl rfl rfl (pc0 := 7) (pc' := 10) (same := true) rfl (hb hby d_prog_36_method_10_code_7) rfl (decide_eq_true (congrArg Value.ref hk)) (by decide) (by decide) k) ?_
    show Go p e below _ (T_97.setTop (mkF m 10 #[.val (.ref a1), .val (.ref s1)] []))
    refine Go.step (fun _ k => XS.aloadN X_97.here hx rfl (hb hby d_prog_36_method_10_code_10) rfl rfl k) ?_
    show Go p e below _ (T_97.setTop (mkF m 11 #[.val (.ref a1), .val (.ref s1)] [(.ref a1)]))
    obtain ⟨T_98, X_98, e_98, st_98⟩ := getF X_97 hx hZ hown (host := "") (Or.inl (wd_76 hw)) Via.refl e_97 F_t (g := (mkF m 11 #[.val (.ref a1), .val (.ref s1)] [(.ref a1)])) rfl rfl (hb hby d_prog_36_method_10_code_11)
    refine Go.step st_98 ?_
    show Go p e below _ (T_98.setTop (mkF m 14 #[.val (.ref a1), .val (.ref s1)] [(.ref t1)]))
    refine Go.step (fun _ k => XS.aloadN X_98.here hx rfl (hb hby d_prog_36_method_10_code_14) rfl rfl k) ?_
    show Go p e below _ (T_98.setTop (mkF m 15 #[.val (.ref a1), .val (.ref s1)] [(.ref s1), (.ref t1)]))
    have cp99 := S_t1
    obtain ⟨t100, kb100, -, -, Ex100, Fv100, Fc100, Av100, hl100, hn100⟩ := cp99
    have cp101 := S_s1
    obtain ⟨t102, kb102, -, -, Ex102, Fv102, Fc102, Av102, hl102, hn102⟩ := cp101
    obtain ⟨v_103, T_103, L_103, X_103, hQ_103, st_103⟩ := goV X_98 hx hZ (y := ({ cls := "java/lang/String", name := "equals", desc := "(Ljava/lang/Object;)Z" } : Jvm.MethodName)) (z := ({ cls := "java/lang/String", name := "equals", desc := "(Ljava/lang/Object;)Z" } : Jvm.MethodName)) (kc := 0) (ks := 0) (QQ := fun v h' L => ((v = some (.int 1) ∧ cs = ds) ∨ (v = some (.int 0) ∧ ¬ cs = ds)) ∧ L = [] ∧ h' = h0) hown (wd_96 hw) (wd_97 hw) (notFace_of_selects (args := #[]) (mvT hZ (wd_99 hw))) (wd_99 hw) (wd_98 hw) (by decide) (StrChars.Road.eqW (W := 0) hZ (sw_wordsEq hw) (kI := 4) (wd_6 hw) Ex100 Fv100 Fc100 Av100 (StrChars.Road.codOf rfl (fun c hc => (hl100 c hc).2)) (up255 hl100) hn100 Ex102 Fv102 Fc102 Av102 (StrChars.Road.codOf rfl (fun c hc => (hl102 c hc).2)) (up255 hl102) hn102 (S_cs.ext hO.2) n_cs (by decide) (by decide)) e_98 Ex100 (g := (mkF m 15 #[.val (.ref a1), .val (.ref s1)] [(.ref s1), (.ref t1)])) rfl (by rw [hml]; rfl) (argsL := [(.ref s1)]) (rest := []) rfl (lenOf pd_4 rfl) rfl (by show 2 * 0 + _ ≤ _; exact Nat.le_of_eq rfl) (hb hby d_prog_36_method_10_code_15) (by decide) (by decide)
    obtain ⟨hv_103, rfl, e_103⟩ := hQ_103
    obtain rfl := eqv_if hv_103
    have N_103 := Fr.app N0 (Fr.nil n0)
    refine Go.step st_103 ?_
    show Go p e below _ (T_103.setTop (mkF m 18 #[.val (.ref a1), .val (.ref s1)] [(.int (if cs = ds then (1 : Int32) else 0))]))
    by_cases he : cs = ds
    · skip
      refine Go.step (fun _ k => XS.ifNo X_103.here hx rfl (hb hby d_prog_36_method_10_code_18) rfl ((if0 _ _).trans (feq (b01_ne he)).1) k) ?_
      show Go p e below _ (T_103.setTop (mkF m 21 #[.val (.ref a1), .val (.ref s1)] []))
      refine Go.step (fun _ k => XS.iconst X_103.here hx rfl (hb hby d_prog_36_method_10_code_21) k) ?_
      show Go p e below _ (T_103.setTop (mkF m 22 #[.val (.ref a1), .val (.ref s1)] [(.int (1 : Int32))]))
      refine Go.step (fun _ k => XS.goto X_103.here hx rfl (pc0 := 22) (pc' := 26) rfl (hb hby d_prog_36_method_10_code_22) (by decide) (by decide) k) ?_
      show Go p e below _ (T_103.setTop (mkF m 26 #[.val (.ref a1), .val (.ref s1)] [(.int (1 : Int32))]))
      exact Go.retV X_103 hx hlk hret rfl (Or.inl ⟨rfl, Or.inr (Or.inl rfl), _, rfl⟩) (hb hby d_prog_36_method_10_code_26) (by decide) (by decide) (by rw [e_103]; exact ⟨(by rw [if_pos ⟨hk, he⟩]), N_103, rfl⟩)
    · skip
      refine Go.step (fun _ k => XS.ifYes X_103.here hx rfl (pc0 := 18) (pc' := 25) rfl (hb hby d_prog_36_method_10_code_18) rfl ((if0 _ _).trans (teq (b01_eq he)).1) (by decide) (by decide) k) ?_
      show Go p e below _ (T_103.setTop (mkF m 25 #[.val (.ref a1), .val (.ref s1)] []))
      refine Go.step (fun _ k => XS.iconst X_103.here hx rfl (hb hby d_prog_36_method_10_code_25) k) ?_
      show Go p e below _ (T_103.setTop (mkF m 26 #[.val (.ref a1), .val (.ref s1)] [(.int (0 : Int32))]))
      exact Go.retV X_103 hx hlk hret rfl (Or.inl ⟨rfl, Or.inr (Or.inl rfl), _, rfl⟩) (hb hby d_prog_36_method_10_code_26) (by decide) (by decide) (by rw [e_103]; exact ⟨(by rw [if_neg (fun q => he q.2)]), N_103, rfl⟩)
  · skip
    refine Go.step (fun _ k => Jvm.RoadKit.acmp (g := (mkF m 7 #[.val (.ref a1), .val (.ref s1)] [(.ref kd1), (.ref k1)])) X_97 hx rfl rfl rfl (pc0 := 7) (pc' := 25) (same := false) rfl (hb hby d_prog_36_method_10_code_7) rfl (decide_eq_false fun q => hk (Value.ref.inj q)) (by decide) (by decide) k) ?_
    show Go p e below _ (T_97.setTop (mkF m 25 #[.val (.ref a1), .val (.ref s1)] []))
    refine Go.step (fun _ k => XS.iconst X_97.here hx rfl (hb hby d_prog_36_method_10_code_25) k) ?_
    show Go p e below _ (T_97.setTop (mkF m 26 #[.val (.ref a1), .val (.ref s1)] [(.int (0 : Int32))]))
    exact Go.retV X_97 hx hlk hret rfl (Or.inl ⟨rfl, Or.inr (Or.inl rfl), _, rfl⟩) (hb hby d_prog_36_method_10_code_26) (by decide) (by decide) (by rw [e_97]; exact ⟨(by rw [if_neg (fun q => hk q.1)]), N0, rfl⟩)
--@E
theorem kd_iff {p1 : Int32} {r k : Addr} (h : (p1 = 1 → r = k) ∧ (¬ p1 = 1 → r ≠ k)) : r = k ↔ p1 = (1 : Int32) := ⟨fun q => Decidable.byContradiction fun z => h.2 z q, h.1⟩
theorem and_congr_left' {a b c : Prop} (h : a ↔ b) : (a ∧ c) ↔ (b ∧ c) := ⟨fun q => ⟨h.mp q.1, q.2⟩, fun q => ⟨h.mpr q.1, q.2⟩⟩
--@C law
def Q_law (Z : State) (zc : Int32) (kd0 : Addr) (kd1 : Addr) (kd2 : Addr) (kd3 : Addr) (kd4 : Addr) (kd5 : Addr) (kd6 : Addr) (kd7 : Addr) (kd8 : Addr) (kd9 : Addr) (kd10 : Addr) (kd11 : Addr) (kd12 : Addr) (kd13 : Addr) (kd14 : Addr) (kd15 : Addr) (kd16 : Addr) (kd17 : Addr) (p0 : Int32) (p1 : Int32) (p2 : Int32) (p3 : Int32) (h0 : Heap) (n0 : Nat) (v : Option Value) (h : Heap) (L : List Loc) : Prop := v = some (.int (1 : Int32)) ∧ Fr n0 L
set_option maxRecDepth 65536 in
set_option maxHeartbeats 40000000 in
theorem rm_law (l : Launch) (Z : State) (a0 : Array Value) (hw : ∀ d ∈ tables_1, d.before a0 Z = true) (zc : Int32) (kd0 : Addr) (kd1 : Addr) (kd2 : Addr) (kd3 : Addr) (kd4 : Addr) (kd5 : Addr) (kd6 : Addr) (kd7 : Addr) (kd8 : Addr) (kd9 : Addr) (kd10 : Addr) (kd11 : Addr) (kd12 : Addr) (kd13 : Addr) (kd14 : Addr) (kd15 : Addr) (kd16 : Addr) (kd17 : Addr) (p0 : Int32) (p1 : Int32) (p2 : Int32) (p3 : Int32) (h0 : Heap) (n0 : Nat) (Z0 : n0 ≤ h0.size) (hSt : St Z zc kd0 kd1 kd2 kd3 kd4 kd5 kd6 kd7 kd8 kd9 kd10 kd11 kd12 kd13 kd14 kd15 kd16 kd17) (hO : Old Z n0 h0) :
    CW l Z EL x (Jvm.Cond.code x code maxLocals ret :: tables_1) room_1 #[(.int p0), (.int p1), (.int p2), (.int p3)] h0 (Q_law Z zc kd0 kd1 kd2 kd3 kd4 kd5 kd6 kd7 kd8 kd9 kd10 kd11 kd12 kd13 kd14 kd15 kd16 kd17 p0 p1 p2 p3 h0 n0) := by
  refine CW.of (L0 := #[.val (.int p0), .val (.int p1), .val (.int p2), .val (.int p3), .unset, .unset, .unset, .unset, .unset, .unset, .unset, .unset, .unset, .unset, .unset, .unset, .unset]) (plainFor_of_name pn_1) (fun m => by first | (simp [entryFrame, mkF, argsToLocals, Value.category]; done) | rfl) ?_
  intro p e s m below meth c s₁ hx hby hml hret hlk hZ hown hnm X0 e0 hS0 hk0 CV0 hh0
  have hEL := hEL_ (a0 := a0) hw
  have hwS := hwS_ hw
  have N0 := Fr.nil n0
  have KP0 := Keep.refl h0 []
  have hSt_ := hSt
  obtain ⟨S_cs, n_cs, S_kd0, S_kd1, S_kd2, S_kd3, S_kd4, S_kd5, S_kd6, S_kd7, S_kd8, S_kd9, S_kd10, S_kd11, S_kd12, S_kd13, S_kd14, S_kd15, S_kd16, S_kd17, ne_kd0, ne_kd2, ne_kd3, ne_kd4, ne_kd5, ne_kd6, ne_kd7, ne_kd8, ne_kd9, ne_kd10, ne_kd11, ne_kd12, ne_kd13, ne_kd14, ne_kd15, ne_kd16, ne_kd17⟩ := hSt_
  show Go p e below _ (s₁.setTop (mkF m 0 #[.val (.int p0), .val (.int p1), .val (.int p2), .val (.int p3), .unset, .unset, .unset, .unset, .unset, .unset, .unset, .unset, .unset, .unset, .unset, .unset, .unset] []))
  refine Go.step (fun _ k => XS.iloadN X0.here hx rfl (hb hby at_0) rfl  k) ?_
  show Go p e below _ (s₁.setTop (mkF m 1 #[.val (.int p0), .val (.int p1), .val (.int p2), .val (.int p3), .unset, .unset, .unset, .unset, .unset, .unset, .unset, .unset, .unset, .unset, .unset, .unset, .unset] [(.int p0)]))
  refine Go.step (fun _ k => X0.ldcInt hx hown (mvT hZ (wd_0 hw)) (g := (mkF m 1 #[.val (.int p0), .val (.int p1), .val (.int p2), .val (.int p3), .unset, .unset, .unset, .unset, .unset, .unset, .unset, .unset, .unset, .unset, .unset, .unset, .unset] [(.int p0)])) rfl (hb hby at_1) _ k) ?_
  show Go p e below _ (s₁.setTop (mkF m 3 #[.val (.int p0), .val (.int p1), .val (.int p2), .val (.int p3), .unset, .unset, .unset, .unset, .unset, .unset, .unset, .unset, .unset, .unset, .unset, .unset, .unset] [(.int (2147483647 : Int32)), (.int p0)]))
  refine Go.step (fun _ k => XS.iand X0.here hx rfl (hb hby at_3) rfl k) ?_
  show Go p e below _ (s₁.setTop (mkF m 4 #[.val (.int p0), .val (.int p1), .val (.int p2), .val (.int p3), .unset, .unset, .unset, .unset, .unset, .unset, .unset, .unset, .unset, .unset, .unset, .unset, .unset] [(.int (p0 &&& (2147483647 : Int32)))]))
  refine Go.step (fun _ k => XS.bipush X0.here hx rfl (hb hby at_4) k) ?_
  show Go p e below _ (s₁.setTop (mkF m 6 #[.val (.int p0), .val (.int p1), .val (.int p2), .val (.int p3), .unset, .unset, .unset, .unset, .unset, .unset, .unset, .unset, .unset, .unset, .unset, .unset, .unset] [(.int (18 : Int32)), (.int (p0 &&& (2147483647 : Int32)))]))
  refine Go.step (fun _ k => iremM X0 hx rfl (hb hby at_6) rfl (by decide) k) ?_
  show Go p e below _ (s₁.setTop (mkF m 7 #[.val (.int p0), .val (.int p1), .val (.int p2), .val (.int p3), .unset, .unset, .unset, .unset, .unset, .unset, .unset, .unset, .unset, .unset, .unset, .unset, .unset] [(.int ((p0 &&& (2147483647 : Int32)) % (18 : Int32)))]))
  refine Go.step (fun _ k => XS.istore X0.here hx rfl (hb hby at_7) rfl (l' := #[.val (.int p0), .val (.int p1), .val (.int p2), .val (.int p3), .val (.int ((p0 &&& (2147483647 : Int32)) % (18 : Int32))), .unset, .unset, .unset, .unset, .unset, .unset, .unset, .unset, .unset, .unset, .unset, .unset]) rfl k) ?_
  show Go p e below _ (s₁.setTop (mkF m 9 #[.val (.int p0), .val (.int p1), .val (.int p2), .val (.int p3), .val (.int ((p0 &&& (2147483647 : Int32)) % (18 : Int32))), .unset, .unset, .unset, .unset, .unset, .unset, .unset, .unset, .unset, .unset, .unset, .unset] []))
  obtain ⟨kk, h_kk⟩ : ∃ z, z = ((p0 &&& (2147483647 : Int32)) % (18 : Int32)) := ⟨_, rfl⟩
  rw [← h_kk]
  show Go p e below _ (s₁.setTop (mkF m 9 #[.val (.int p0), .val (.int p1), .val (.int p2), .val (.int p3), .val (.int kk), .unset, .unset, .unset, .unset, .unset, .unset, .unset, .unset, .unset, .unset, .unset, .unset] []))
  refine Go.step (fun _ k => XS.iloadN X0.here hx rfl (hb hby at_9) rfl  k) ?_
  show Go p e below _ (s₁.setTop (mkF m 10 #[.val (.int p0), .val (.int p1), .val (.int p2), .val (.int p3), .val (.int kk), .unset, .unset, .unset, .unset, .unset, .unset, .unset, .unset, .unset, .unset, .unset, .unset] [(.int p1)]))
  refine Go.step (fun _ k => XS.sipush X0.here hx rfl (hb hby at_10) k) ?_
  show Go p e below _ (s₁.setTop (mkF m 13 #[.val (.int p0), .val (.int p1), .val (.int p2), .val (.int p3), .val (.int kk), .unset, .unset, .unset, .unset, .unset, .unset, .unset, .unset, .unset, .unset, .unset, .unset] [(.int (255 : Int32)), (.int p1)]))
  refine Go.step (fun _ k => XS.iand X0.here hx rfl (hb hby at_13) rfl k) ?_
  show Go p e below _ (s₁.setTop (mkF m 14 #[.val (.int p0), .val (.int p1), .val (.int p2), .val (.int p3), .val (.int kk), .unset, .unset, .unset, .unset, .unset, .unset, .unset, .unset, .unset, .unset, .unset, .unset] [(.int (p1 &&& (255 : Int32)))]))
  refine Go.step (fun _ k => XS.i2c X0.here hx rfl (hb hby at_14) rfl k) ?_
  show Go p e below _ (s₁.setTop (mkF m 15 #[.val (.int p0), .val (.int p1), .val (.int p2), .val (.int p3), .val (.int kk), .unset, .unset, .unset, .unset, .unset, .unset, .unset, .unset, .unset, .unset, .unset, .unset] [(.int (nar .char (p1 &&& (255 : Int32))))]))
  refine own_top (congrArg Value.int (show (nar .char (p1 &&& (255 : Int32))) = (p1 &&& (255 : Int32)) from nar255 _)) ?_
  show Go p e below _ (s₁.setTop (mkF m 15 #[.val (.int p0), .val (.int p1), .val (.int p2), .val (.int p3), .val (.int kk), .unset, .unset, .unset, .unset, .unset, .unset, .unset, .unset, .unset, .unset, .unset, .unset] [(.int (p1 &&& (255 : Int32)))]))
  refine Go.step (fun _ k => XS.istore X0.here hx rfl (hb hby at_15) rfl (l' := #[.val (.int p0), .val (.int p1), .val (.int p2), .val (.int p3), .val (.int kk), .val (.int (p1 &&& (255 : Int32))), .unset, .unset, .unset, .unset, .unset, .unset, .unset, .unset, .unset, .unset, .unset]) rfl k) ?_
  show Go p e below _ (s₁.setTop (mkF m 17 #[.val (.int p0), .val (.int p1), .val (.int p2), .val (.int p3), .val (.int kk), .val (.int (p1 &&& (255 : Int32))), .unset, .unset, .unset, .unset, .unset, .unset, .unset, .unset, .unset, .unset, .unset] []))
  obtain ⟨t0, h_t0⟩ : ∃ z, z = (p1 &&& (255 : Int32)) := ⟨_, rfl⟩
  rw [← h_t0]
  show Go p e below _ (s₁.setTop (mkF m 17 #[.val (.int p0), .val (.int p1), .val (.int p2), .val (.int p3), .val (.int kk), .val (.int t0), .unset, .unset, .unset, .unset, .unset, .unset, .unset, .unset, .unset, .unset, .unset] []))
  have l_t0 : ¬ t0 < 0 ∧ ¬ (255 : Int32) < t0 := by rw [h_t0]; exact lat255 _
  show Go p e below _ (s₁.setTop (mkF m 17 #[.val (.int p0), .val (.int p1), .val (.int p2), .val (.int p3), .val (.int kk), .val (.int t0), .unset, .unset, .unset, .unset, .unset, .unset, .unset, .unset, .unset, .unset, .unset] []))
  refine Go.step (fun _ k => XS.iloadN X0.here hx rfl (hb hby at_17) rfl  k) ?_
  show Go p e below _ (s₁.setTop (mkF m 18 #[.val (.int p0), .val (.int p1), .val (.int p2), .val (.int p3), .val (.int kk), .val (.int t0), .unset, .unset, .unset, .unset, .unset, .unset, .unset, .unset, .unset, .unset, .unset] [(.int p1)]))
  refine Go.step (fun _ k => XS.bipush X0.here hx rfl (hb hby at_18) k) ?_
  show Go p e below _ (s₁.setTop (mkF m 20 #[.val (.int p0), .val (.int p1), .val (.int p2), .val (.int p3), .val (.int kk), .val (.int t0), .unset, .unset, .unset, .unset, .unset, .unset, .unset, .unset, .unset, .unset, .unset] [(.int (8 : Int32)), (.int p1)]))
  refine Go.step (fun _ k => XS.iushr X0.here hx rfl (hb hby at_20) rfl k) ?_
  show Go p e below _ (s₁.setTop (mkF m 21 #[.val (.int p0), .val (.int p1), .val (.int p2), .val (.int p3), .val (.int kk), .val (.int t0), .unset, .unset, .unset, .unset, .unset, .unset, .unset, .unset, .unset, .unset, .unset] [(.int ((p1.toUInt32 >>> ((8 : Int32) &&& 31).toUInt32).toInt32))]))
  refine Go.step (fun _ k => XS.sipush X0.here hx rfl (hb hby at_21) k) ?_
  show Go p e below _ (s₁.setTop (mkF m 24 #[.val (.int p0), .val (.int p1), .val (.int p2), .val (.int p3), .val (.int kk), .val (.int t0), .unset, .unset, .unset, .unset, .unset, .unset, .unset, .unset, .unset, .unset, .unset] [(.int (255 : Int32)), (.int ((p1.toUInt32 >>> ((8 : Int32) &&& 31).toUInt32).toInt32))]))
  refine Go.step (fun _ k => XS.iand X0.here hx rfl (hb hby at_24) rfl k) ?_
  show Go p e below _ (s₁.setTop (mkF m 25 #[.val (.int p0), .val (.int p1), .val (.int p2), .val (.int p3), .val (.int kk), .val (.int t0), .unset, .unset, .unset, .unset, .unset, .unset, .unset, .unset, .unset, .unset, .unset] [(.int (((p1.toUInt32 >>> ((8 : Int32) &&& 31).toUInt32).toInt32) &&& (255 : Int32)))]))
  refine Go.step (fun _ k => XS.i2c X0.here hx rfl (hb hby at_25) rfl k) ?_
  show Go p e below _ (s₁.setTop (mkF m 26 #[.val (.int p0), .val (.int p1), .val (.int p2), .val (.int p3), .val (.int kk), .val (.int t0), .unset, .unset, .unset, .unset, .unset, .unset, .unset, .unset, .unset, .unset, .unset] [(.int (nar .char (((p1.toUInt32 >>> ((8 : Int32) &&& 31).toUInt32).toInt32) &&& (255 : Int32))))]))
  refine own_top (congrArg Value.int (show (nar .char (((p1.toUInt32 >>> ((8 : Int32) &&& 31).toUInt32).toInt32) &&& (255 : Int32))) = (((p1.toUInt32 >>> ((8 : Int32) &&& 31).toUInt32).toInt32) &&& (255 : Int32)) from nar255 _)) ?_
  show Go p e below _ (s₁.setTop (mkF m 26 #[.val (.int p0), .val (.int p1), .val (.int p2), .val (.int p3), .val (.int kk), .val (.int t0), .unset, .unset, .unset, .unset, .unset, .unset, .unset, .unset, .unset, .unset, .unset] [(.int (((p1.toUInt32 >>> ((8 : Int32) &&& 31).toUInt32).toInt32) &&& (255 : Int32)))]))
  refine Go.step (fun _ k => XS.istore X0.here hx rfl (hb hby at_26) rfl (l' := #[.val (.int p0), .val (.int p1), .val (.int p2), .val (.int p3), .val (.int kk), .val (.int t0), .val (.int (((p1.toUInt32 >>> ((8 : Int32) &&& 31).toUInt32).toInt32) &&& (255 : Int32))), .unset, .unset, .unset, .unset, .unset, .unset, .unset, .unset, .unset, .unset]) rfl k) ?_
  show Go p e below _ (s₁.setTop (mkF m 28 #[.val (.int p0), .val (.int p1), .val (.int p2), .val (.int p3), .val (.int kk), .val (.int t0), .val (.int (((p1.toUInt32 >>> ((8 : Int32) &&& 31).toUInt32).toInt32) &&& (255 : Int32))), .unset, .unset, .unset, .unset, .unset, .unset, .unset, .unset, .unset, .unset] []))
  obtain ⟨t1, h_t1⟩ : ∃ z, z = (((p1.toUInt32 >>> ((8 : Int32) &&& 31).toUInt32).toInt32) &&& (255 : Int32)) := ⟨_, rfl⟩
  rw [← h_t1]
  show Go p e below _ (s₁.setTop (mkF m 28 #[.val (.int p0), .val (.int p1), .val (.int p2), .val (.int p3), .val (.int kk), .val (.int t0), .val (.int t1), .unset, .unset, .unset, .unset, .unset, .unset, .unset, .unset, .unset, .unset] []))
  have l_t1 : ¬ t1 < 0 ∧ ¬ (255 : Int32) < t1 := by rw [h_t1]; exact lat255 _
  show Go p e below _ (s₁.setTop (mkF m 28 #[.val (.int p0), .val (.int p1), .val (.int p2), .val (.int p3), .val (.int kk), .val (.int t0), .val (.int t1), .unset, .unset, .unset, .unset, .unset, .unset, .unset, .unset, .unset, .unset] []))
  refine Go.step (fun _ k => XS.iloadN X0.here hx rfl (hb hby at_28) rfl  k) ?_
  show Go p e below _ (s₁.setTop (mkF m 29 #[.val (.int p0), .val (.int p1), .val (.int p2), .val (.int p3), .val (.int kk), .val (.int t0), .val (.int t1), .unset, .unset, .unset, .unset, .unset, .unset, .unset, .unset, .unset, .unset] [(.int p2)]))
  refine Go.step (fun _ k => X0.ldcInt hx hown (mvT hZ (wd_0 hw)) (g := (mkF m 29 #[.val (.int p0), .val (.int p1), .val (.int p2), .val (.int p3), .val (.int kk), .val (.int t0), .val (.int t1), .unset, .unset, .unset, .unset, .unset, .unset, .unset, .unset, .unset, .unset] [(.int p2)])) rfl (hb hby at_29) _ k) ?_
  show Go p e below _ (s₁.setTop (mkF m 31 #[.val (.int p0), .val (.int p1), .val (.int p2), .val (.int p3), .val (.int kk), .val (.int t0), .val (.int t1), .unset, .unset, .unset, .unset, .unset, .unset, .unset, .unset, .unset, .unset] [(.int (2147483647 : Int32)), (.int p2)]))
  refine Go.step (fun _ k => XS.iand X0.here hx rfl (hb hby at_31) rfl k) ?_
  show Go p e below _ (s₁.setTop (mkF m 32 #[.val (.int p0), .val (.int p1), .val (.int p2), .val (.int p3), .val (.int kk), .val (.int t0), .val (.int t1), .unset, .unset, .unset, .unset, .unset, .unset, .unset, .unset, .unset, .unset] [(.int (p2 &&& (2147483647 : Int32)))]))
  refine Go.step (fun _ k => XS.iconst X0.here hx rfl (hb hby at_32) k) ?_
  show Go p e below _ (s₁.setTop (mkF m 33 #[.val (.int p0), .val (.int p1), .val (.int p2), .val (.int p3), .val (.int kk), .val (.int t0), .val (.int t1), .unset, .unset, .unset, .unset, .unset, .unset, .unset, .unset, .unset, .unset] [(.int (3 : Int32)), (.int (p2 &&& (2147483647 : Int32)))]))
  refine Go.step (fun _ k => iremM X0 hx rfl (hb hby at_33) rfl (by decide) k) ?_
  show Go p e below _ (s₁.setTop (mkF m 34 #[.val (.int p0), .val (.int p1), .val (.int p2), .val (.int p3), .val (.int kk), .val (.int t0), .val (.int t1), .unset, .unset, .unset, .unset, .unset, .unset, .unset, .unset, .unset, .unset] [(.int ((p2 &&& (2147483647 : Int32)) % (3 : Int32)))]))
  refine Go.step (fun _ k => XS.istore X0.here hx rfl (hb hby at_34) rfl (l' := #[.val (.int p0), .val (.int p1), .val (.int p2), .val (.int p3), .val (.int kk), .val (.int t0), .val (.int t1), .val (.int ((p2 &&& (2147483647 : Int32)) % (3 : Int32))), .unset, .unset, .unset, .unset, .unset, .unset, .unset, .unset, .unset]) rfl k) ?_
  show Go p e below _ (s₁.setTop (mkF m 36 #[.val (.int p0), .val (.int p1), .val (.int p2), .val (.int p3), .val (.int kk), .val (.int t0), .val (.int t1), .val (.int ((p2 &&& (2147483647 : Int32)) % (3 : Int32))), .unset, .unset, .unset, .unset, .unset, .unset, .unset, .unset, .unset] []))
  obtain ⟨lt, h_lt⟩ : ∃ z, z = ((p2 &&& (2147483647 : Int32)) % (3 : Int32)) := ⟨_, rfl⟩
  rw [← h_lt]
  show Go p e below _ (s₁.setTop (mkF m 36 #[.val (.int p0), .val (.int p1), .val (.int p2), .val (.int p3), .val (.int kk), .val (.int t0), .val (.int t1), .val (.int lt), .unset, .unset, .unset, .unset, .unset, .unset, .unset, .unset, .unset] []))
  have h_lt3 : 0 ≤ lt.toInt ∧ lt.toInt < 3 := by rw [h_lt]; exact rem3 _
  show Go p e below _ (s₁.setTop (mkF m 36 #[.val (.int p0), .val (.int p1), .val (.int p2), .val (.int p3), .val (.int kk), .val (.int t0), .val (.int t1), .val (.int lt), .unset, .unset, .unset, .unset, .unset, .unset, .unset, .unset, .unset] []))
  refine Go.step (fun _ k => XS.iloadN X0.here hx rfl (hb hby at_36) rfl  k) ?_
  show Go p e below _ (s₁.setTop (mkF m 37 #[.val (.int p0), .val (.int p1), .val (.int p2), .val (.int p3), .val (.int kk), .val (.int t0), .val (.int t1), .val (.int lt), .unset, .unset, .unset, .unset, .unset, .unset, .unset, .unset, .unset] [(.int p3)]))
  refine Go.step (fun _ k => XS.iconst X0.here hx rfl (hb hby at_37) k) ?_
  show Go p e below _ (s₁.setTop (mkF m 38 #[.val (.int p0), .val (.int p1), .val (.int p2), .val (.int p3), .val (.int kk), .val (.int t0), .val (.int t1), .val (.int lt), .unset, .unset, .unset, .unset, .unset, .unset, .unset, .unset, .unset] [(.int (1 : Int32)), (.int p3)]))
  refine Go.step (fun _ k => XS.iand X0.here hx rfl (hb hby at_38) rfl k) ?_
  show Go p e below _ (s₁.setTop (mkF m 39 #[.val (.int p0), .val (.int p1), .val (.int p2), .val (.int p3), .val (.int kk), .val (.int t0), .val (.int t1), .val (.int lt), .unset, .unset, .unset, .unset, .unset, .unset, .unset, .unset, .unset] [(.int (p3 &&& (1 : Int32)))]))
  refine own_joinA (P := fun (k0 : Int32) => ¬ k0 < 0 ∧ ¬ (255 : Int32) < k0) (t := fun (k0 : Int32) => s₁.setTop (mkF m 56 #[.val (.int p0), .val (.int p1), .val (.int p2), .val (.int p3), .val (.int kk), .val (.int t0), .val (.int t1), .val (.int lt), .unset, .unset, .unset, .unset, .unset, .unset, .unset, .unset, .unset] [(.int k0)])) (fun J104 => ?_) ?_
  · skip
    by_cases b0 : (p3 &&& (1 : Int32)) = (0 : Int32)
    · skip
      refine Go.step (fun _ k => XS.ifYes X0.here hx rfl (pc0 := 39) (pc' := 47) rfl (hb hby at_39) rfl ((if0 _ _).trans (teq b0).1) (by decide) (by decide) k) ?_
      show Go p e below _ (s₁.setTop (mkF m 47 #[.val (.int p0), .val (.int p1), .val (.int p2), .val (.int p3), .val (.int kk), .val (.int t0), .val (.int t1), .val (.int lt), .unset, .unset, .unset, .unset, .unset, .unset, .unset, .unset, .unset] []))
      refine Go.step (fun _ k => XS.iloadN X0.here hx rfl (hb hby at_47) rfl  k) ?_
      show Go p e below _ (s₁.setTop (mkF m 48 #[.val (.int p0), .val (.int p1), .val (.int p2), .val (.int p3), .val (.int kk), .val (.int t0), .val (.int t1), .val (.int lt), .unset, .unset, .unset, .unset, .unset, .unset, .unset, .unset, .unset] [(.int p3)]))
      refine Go.step (fun _ k => XS.bipush X0.here hx rfl (hb hby at_48) k) ?_
      show Go p e below _ (s₁.setTop (mkF m 50 #[.val (.int p0), .val (.int p1), .val (.int p2), .val (.int p3), .val (.int kk), .val (.int t0), .val (.int t1), .val (.int lt), .unset, .unset, .unset, .unset, .unset, .unset, .unset, .unset, .unset] [(.int (8 : Int32)), (.int p3)]))
      refine Go.step (fun _ k => XS.iushr X0.here hx rfl (hb hby at_50) rfl k) ?_
      show Go p e below _ (s₁.setTop (mkF m 51 #[.val (.int p0), .val (.int p1), .val (.int p2), .val (.int p3), .val (.int kk), .val (.int t0), .val (.int t1), .val (.int lt), .unset, .unset, .unset, .unset, .unset, .unset, .unset, .unset, .unset] [(.int ((p3.toUInt32 >>> ((8 : Int32) &&& 31).toUInt32).toInt32))]))
      refine Go.step (fun _ k => XS.sipush X0.here hx rfl (hb hby at_51) k) ?_
      show Go p e below _ (s₁.setTop (mkF m 54 #[.val (.int p0), .val (.int p1), .val (.int p2), .val (.int p3), .val (.int kk), .val (.int t0), .val (.int t1), .val (.int lt), .unset, .unset, .unset, .unset, .unset, .unset, .unset, .unset, .unset] [(.int (255 : Int32)), (.int ((p3.toUInt32 >>> ((8 : Int32) &&& 31).toUInt32).toInt32))]))
      refine Go.step (fun _ k => XS.iand X0.here hx rfl (hb hby at_54) rfl k) ?_
      show Go p e below _ (s₁.setTop (mkF m 55 #[.val (.int p0), .val (.int p1), .val (.int p2), .val (.int p3), .val (.int kk), .val (.int t0), .val (.int t1), .val (.int lt), .unset, .unset, .unset, .unset, .unset, .unset, .unset, .unset, .unset] [(.int (((p3.toUInt32 >>> ((8 : Int32) &&& 31).toUInt32).toInt32) &&& (255 : Int32)))]))
      refine Go.step (fun _ k => XS.i2c X0.here hx rfl (hb hby at_55) rfl k) ?_
      show Go p e below _ (s₁.setTop (mkF m 56 #[.val (.int p0), .val (.int p1), .val (.int p2), .val (.int p3), .val (.int kk), .val (.int t0), .val (.int t1), .val (.int lt), .unset, .unset, .unset, .unset, .unset, .unset, .unset, .unset, .unset] [(.int (nar .char (((p3.toUInt32 >>> ((8 : Int32) &&& 31).toUInt32).toInt32) &&& (255 : Int32))))]))
      refine own_top (congrArg Value.int (show (nar .char (((p3.toUInt32 >>> ((8 : Int32) &&& 31).toUInt32).toInt32) &&& (255 : Int32))) = (((p3.toUInt32 >>> ((8 : Int32) &&& 31).toUInt32).toInt32) &&& (255 : Int32)) from nar255 _)) ?_
      show Go p e below _ (s₁.setTop (mkF m 56 #[.val (.int p0), .val (.int p1), .val (.int p2), .val (.int p3), .val (.int kk), .val (.int t0), .val (.int t1), .val (.int lt), .unset, .unset, .unset, .unset, .unset, .unset, .unset, .unset, .unset] [(.int (((p3.toUInt32 >>> ((8 : Int32) &&& 31).toUInt32).toInt32) &&& (255 : Int32)))]))
      exact J104 _ (lat255 _)
    · skip
      refine Go.step (fun _ k => XS.ifNo X0.here hx rfl (hb hby at_39) rfl ((if0 _ _).trans (feq b0).1) k) ?_
      show Go p e below _ (s₁.setTop (mkF m 42 #[.val (.int p0), .val (.int p1), .val (.int p2), .val (.int p3), .val (.int kk), .val (.int t0), .val (.int t1), .val (.int lt), .unset, .unset, .unset, .unset, .unset, .unset, .unset, .unset, .unset] []))
      refine Go.step (fun _ k => XS.iload X0.here hx rfl (hb hby at_42) rfl  k) ?_
      show Go p e below _ (s₁.setTop (mkF m 44 #[.val (.int p0), .val (.int p1), .val (.int p2), .val (.int p3), .val (.int kk), .val (.int t0), .val (.int t1), .val (.int lt), .unset, .unset, .unset, .unset, .unset, .unset, .unset, .unset, .unset] [(.int t0)]))
      refine Go.step (fun _ k => XS.goto X0.here hx rfl (pc0 := 44) (pc' := 56) rfl (hb hby at_44) (by decide) (by decide) k) ?_
      show Go p e below _ (s₁.setTop (mkF m 56 #[.val (.int p0), .val (.int p1), .val (.int p2), .val (.int p3), .val (.int kk), .val (.int t0), .val (.int t1), .val (.int lt), .unset, .unset, .unset, .unset, .unset, .unset, .unset, .unset, .unset] [(.int t0)]))
      exact J104 _ l_t0
  · skip
    intro k0 h_k0
    have h_k0 : ¬ k0 < 0 ∧ ¬ (255 : Int32) < k0 := h_k0
    show Go p e below _ (s₁.setTop (mkF m 56 #[.val (.int p0), .val (.int p1), .val (.int p2), .val (.int p3), .val (.int kk), .val (.int t0), .val (.int t1), .val (.int lt), .unset, .unset, .unset, .unset, .unset, .unset, .unset, .unset, .unset] [(.int k0)]))
    refine Go.step (fun _ k => XS.istore X0.here hx rfl (hb hby at_56) rfl (l' := #[.val (.int p0), .val (.int p1), .val (.int p2), .val (.int p3), .val (.int kk), .val (.int t0), .val (.int t1), .val (.int lt), .val (.int k0), .unset, .unset, .unset, .unset, .unset, .unset, .unset, .unset]) rfl k) ?_
    show Go p e below _ (s₁.setTop (mkF m 58 #[.val (.int p0), .val (.int p1), .val (.int p2), .val (.int p3), .val (.int kk), .val (.int t0), .val (.int t1), .val (.int lt), .val (.int k0), .unset, .unset, .unset, .unset, .unset, .unset, .unset, .unset] []))
    refine Go.step (fun _ k => XS.iloadN X0.here hx rfl (hb hby at_58) rfl  k) ?_
    show Go p e below _ (s₁.setTop (mkF m 59 #[.val (.int p0), .val (.int p1), .val (.int p2), .val (.int p3), .val (.int kk), .val (.int t0), .val (.int t1), .val (.int lt), .val (.int k0), .unset, .unset, .unset, .unset, .unset, .unset, .unset, .unset] [(.int p3)]))
    refine Go.step (fun _ k => XS.iconst X0.here hx rfl (hb hby at_59) k) ?_
    show Go p e below _ (s₁.setTop (mkF m 60 #[.val (.int p0), .val (.int p1), .val (.int p2), .val (.int p3), .val (.int kk), .val (.int t0), .val (.int t1), .val (.int lt), .val (.int k0), .unset, .unset, .unset, .unset, .unset, .unset, .unset, .unset] [(.int (2 : Int32)), (.int p3)]))
    refine Go.step (fun _ k => XS.iand X0.here hx rfl (hb hby at_60) rfl k) ?_
    show Go p e below _ (s₁.setTop (mkF m 61 #[.val (.int p0), .val (.int p1), .val (.int p2), .val (.int p3), .val (.int kk), .val (.int t0), .val (.int t1), .val (.int lt), .val (.int k0), .unset, .unset, .unset, .unset, .unset, .unset, .unset, .unset] [(.int (p3 &&& (2 : Int32)))]))
    refine own_joinA (P := fun (k1 : Int32) => ¬ k1 < 0 ∧ ¬ (255 : Int32) < k1) (t := fun (k1 : Int32) => s₁.setTop (mkF m 78 #[.val (.int p0), .val (.int p1), .val (.int p2), .val (.int p3), .val (.int kk), .val (.int t0), .val (.int t1), .val (.int lt), .val (.int k0), .unset, .unset, .unset, .unset, .unset, .unset, .unset, .unset] [(.int k1)])) (fun J105 => ?_) ?_
    · skip
      by_cases b1 : (p3 &&& (2 : Int32)) = (0 : Int32)
      · skip
        refine Go.step (fun _ k => XS.ifYes X0.here hx rfl (pc0 := 61) (pc' := 69) rfl (hb hby at_61) rfl ((if0 _ _).trans (teq b1).1) (by decide) (by decide) k) ?_
        show Go p e below _ (s₁.setTop (mkF m 69 #[.val (.int p0), .val (.int p1), .val (.int p2), .val (.int p3), .val (.int kk), .val (.int t0), .val (.int t1), .val (.int lt), .val (.int k0), .unset, .unset, .unset, .unset, .unset, .unset, .unset, .unset] []))
        refine Go.step (fun _ k => XS.iloadN X0.here hx rfl (hb hby at_69) rfl  k) ?_
        show Go p e below _ (s₁.setTop (mkF m 70 #[.val (.int p0), .val (.int p1), .val (.int p2), .val (.int p3), .val (.int kk), .val (.int t0), .val (.int t1), .val (.int lt), .val (.int k0), .unset, .unset, .unset, .unset, .unset, .unset, .unset, .unset] [(.int p3)]))
        refine Go.step (fun _ k => XS.bipush X0.here hx rfl (hb hby at_70) k) ?_
        show Go p e below _ (s₁.setTop (mkF m 72 #[.val (.int p0), .val (.int p1), .val (.int p2), .val (.int p3), .val (.int kk), .val (.int t0), .val (.int t1), .val (.int lt), .val (.int k0), .unset, .unset, .unset, .unset, .unset, .unset, .unset, .unset] [(.int (16 : Int32)), (.int p3)]))
        refine Go.step (fun _ k => XS.iushr X0.here hx rfl (hb hby at_72) rfl k) ?_
        show Go p e below _ (s₁.setTop (mkF m 73 #[.val (.int p0), .val (.int p1), .val (.int p2), .val (.int p3), .val (.int kk), .val (.int t0), .val (.int t1), .val (.int lt), .val (.int k0), .unset, .unset, .unset, .unset, .unset, .unset, .unset, .unset] [(.int ((p3.toUInt32 >>> ((16 : Int32) &&& 31).toUInt32).toInt32))]))
        refine Go.step (fun _ k => XS.sipush X0.here hx rfl (hb hby at_73) k) ?_
        show Go p e below _ (s₁.setTop (mkF m 76 #[.val (.int p0), .val (.int p1), .val (.int p2), .val (.int p3), .val (.int kk), .val (.int t0), .val (.int t1), .val (.int lt), .val (.int k0), .unset, .unset, .unset, .unset, .unset, .unset, .unset, .unset] [(.int (255 : Int32)), (.int ((p3.toUInt32 >>> ((16 : Int32) &&& 31).toUInt32).toInt32))]))
        refine Go.step (fun _ k => XS.iand X0.here hx rfl (hb hby at_76) rfl k) ?_
        show Go p e below _ (s₁.setTop (mkF m 77 #[.val (.int p0), .val (.int p1), .val (.int p2), .val (.int p3), .val (.int kk), .val (.int t0), .val (.int t1), .val (.int lt), .val (.int k0), .unset, .unset, .unset, .unset, .unset, .unset, .unset, .unset] [(.int (((p3.toUInt32 >>> ((16 : Int32) &&& 31).toUInt32).toInt32) &&& (255 : Int32)))]))
        refine Go.step (fun _ k => XS.i2c X0.here hx rfl (hb hby at_77) rfl k) ?_
        show Go p e below _ (s₁.setTop (mkF m 78 #[.val (.int p0), .val (.int p1), .val (.int p2), .val (.int p3), .val (.int kk), .val (.int t0), .val (.int t1), .val (.int lt), .val (.int k0), .unset, .unset, .unset, .unset, .unset, .unset, .unset, .unset] [(.int (nar .char (((p3.toUInt32 >>> ((16 : Int32) &&& 31).toUInt32).toInt32) &&& (255 : Int32))))]))
        refine own_top (congrArg Value.int (show (nar .char (((p3.toUInt32 >>> ((16 : Int32) &&& 31).toUInt32).toInt32) &&& (255 : Int32))) = (((p3.toUInt32 >>> ((16 : Int32) &&& 31).toUInt32).toInt32) &&& (255 : Int32)) from nar255 _)) ?_
        show Go p e below _ (s₁.setTop (mkF m 78 #[.val (.int p0), .val (.int p1), .val (.int p2), .val (.int p3), .val (.int kk), .val (.int t0), .val (.int t1), .val (.int lt), .val (.int k0), .unset, .unset, .unset, .unset, .unset, .unset, .unset, .unset] [(.int (((p3.toUInt32 >>> ((16 : Int32) &&& 31).toUInt32).toInt32) &&& (255 : Int32)))]))
        exact J105 _ (lat255 _)
      · skip
        refine Go.step (fun _ k => XS.ifNo X0.here hx rfl (hb hby at_61) rfl ((if0 _ _).trans (feq b1).1) k) ?_
        show Go p e below _ (s₁.setTop (mkF m 64 #[.val (.int p0), .val (.int p1), .val (.int p2), .val (.int p3), .val (.int kk), .val (.int t0), .val (.int t1), .val (.int lt), .val (.int k0), .unset, .unset, .unset, .unset, .unset, .unset, .unset, .unset] []))
        refine Go.step (fun _ k => XS.iload X0.here hx rfl (hb hby at_64) rfl  k) ?_
        show Go p e below _ (s₁.setTop (mkF m 66 #[.val (.int p0), .val (.int p1), .val (.int p2), .val (.int p3), .val (.int kk), .val (.int t0), .val (.int t1), .val (.int lt), .val (.int k0), .unset, .unset, .unset, .unset, .unset, .unset, .unset, .unset] [(.int t1)]))
        refine Go.step (fun _ k => XS.goto X0.here hx rfl (pc0 := 66) (pc' := 78) rfl (hb hby at_66) (by decide) (by decide) k) ?_
        show Go p e below _ (s₁.setTop (mkF m 78 #[.val (.int p0), .val (.int p1), .val (.int p2), .val (.int p3), .val (.int kk), .val (.int t0), .val (.int t1), .val (.int lt), .val (.int k0), .unset, .unset, .unset, .unset, .unset, .unset, .unset, .unset] [(.int t1)]))
        exact J105 _ l_t1
    · skip
      intro k1 h_k1
      have h_k1 : ¬ k1 < 0 ∧ ¬ (255 : Int32) < k1 := h_k1
      show Go p e below _ (s₁.setTop (mkF m 78 #[.val (.int p0), .val (.int p1), .val (.int p2), .val (.int p3), .val (.int kk), .val (.int t0), .val (.int t1), .val (.int lt), .val (.int k0), .unset, .unset, .unset, .unset, .unset, .unset, .unset, .unset] [(.int k1)]))
      refine Go.step (fun _ k => XS.istore X0.here hx rfl (hb hby at_78) rfl (l' := #[.val (.int p0), .val (.int p1), .val (.int p2), .val (.int p3), .val (.int kk), .val (.int t0), .val (.int t1), .val (.int lt), .val (.int k0), .val (.int k1), .unset, .unset, .unset, .unset, .unset, .unset, .unset]) rfl k) ?_
      show Go p e below _ (s₁.setTop (mkF m 80 #[.val (.int p0), .val (.int p1), .val (.int p2), .val (.int p3), .val (.int kk), .val (.int t0), .val (.int t1), .val (.int lt), .val (.int k0), .val (.int k1), .unset, .unset, .unset, .unset, .unset, .unset, .unset] []))
      refine Go.step (fun _ k => XS.iloadN X0.here hx rfl (hb hby at_80) rfl  k) ?_
      show Go p e below _ (s₁.setTop (mkF m 81 #[.val (.int p0), .val (.int p1), .val (.int p2), .val (.int p3), .val (.int kk), .val (.int t0), .val (.int t1), .val (.int lt), .val (.int k0), .val (.int k1), .unset, .unset, .unset, .unset, .unset, .unset, .unset] [(.int p3)]))
      refine Go.step (fun _ k => XS.iconst X0.here hx rfl (hb hby at_81) k) ?_
      show Go p e below _ (s₁.setTop (mkF m 82 #[.val (.int p0), .val (.int p1), .val (.int p2), .val (.int p3), .val (.int kk), .val (.int t0), .val (.int t1), .val (.int lt), .val (.int k0), .val (.int k1), .unset, .unset, .unset, .unset, .unset, .unset, .unset] [(.int (4 : Int32)), (.int p3)]))
      refine Go.step (fun _ k => XS.iand X0.here hx rfl (hb hby at_82) rfl k) ?_
      show Go p e below _ (s₁.setTop (mkF m 83 #[.val (.int p0), .val (.int p1), .val (.int p2), .val (.int p3), .val (.int kk), .val (.int t0), .val (.int t1), .val (.int lt), .val (.int k0), .val (.int k1), .unset, .unset, .unset, .unset, .unset, .unset, .unset] [(.int (p3 &&& (4 : Int32)))]))
      refine own_joinA (P := fun (lk : Int32) => 0 ≤ lk.toInt ∧ lk.toInt < 3) (t := fun (lk : Int32) => s₁.setTop (mkF m 101 #[.val (.int p0), .val (.int p1), .val (.int p2), .val (.int p3), .val (.int kk), .val (.int t0), .val (.int t1), .val (.int lt), .val (.int k0), .val (.int k1), .unset, .unset, .unset, .unset, .unset, .unset, .unset] [(.int lk)])) (fun J106 => ?_) ?_
      · skip
        by_cases b2 : (p3 &&& (4 : Int32)) = (0 : Int32)
        · skip
          refine Go.step (fun _ k => XS.ifYes X0.here hx rfl (pc0 := 83) (pc' := 91) rfl (hb hby at_83) rfl ((if0 _ _).trans (teq b2).1) (by decide) (by decide) k) ?_
          show Go p e below _ (s₁.setTop (mkF m 91 #[.val (.int p0), .val (.int p1), .val (.int p2), .val (.int p3), .val (.int kk), .val (.int t0), .val (.int t1), .val (.int lt), .val (.int k0), .val (.int k1), .unset, .unset, .unset, .unset, .unset, .unset, .unset] []))
          refine Go.step (fun _ k => XS.iloadN X0.here hx rfl (hb hby at_91) rfl  k) ?_
          show Go p e below _ (s₁.setTop (mkF m 92 #[.val (.int p0), .val (.int p1), .val (.int p2), .val (.int p3), .val (.int kk), .val (.int t0), .val (.int t1), .val (.int lt), .val (.int k0), .val (.int k1), .unset, .unset, .unset, .unset, .unset, .unset, .unset] [(.int p3)]))
          refine Go.step (fun _ k => XS.bipush X0.here hx rfl (hb hby at_92) k) ?_
          show Go p e below _ (s₁.setTop (mkF m 94 #[.val (.int p0), .val (.int p1), .val (.int p2), .val (.int p3), .val (.int kk), .val (.int t0), .val (.int t1), .val (.int lt), .val (.int k0), .val (.int k1), .unset, .unset, .unset, .unset, .unset, .unset, .unset] [(.int (24 : Int32)), (.int p3)]))
          refine Go.step (fun _ k => XS.iushr X0.here hx rfl (hb hby at_94) rfl k) ?_
          show Go p e below _ (s₁.setTop (mkF m 95 #[.val (.int p0), .val (.int p1), .val (.int p2), .val (.int p3), .val (.int kk), .val (.int t0), .val (.int t1), .val (.int lt), .val (.int k0), .val (.int k1), .unset, .unset, .unset, .unset, .unset, .unset, .unset] [(.int ((p3.toUInt32 >>> ((24 : Int32) &&& 31).toUInt32).toInt32))]))
          refine Go.step (fun _ k => XS.sipush X0.here hx rfl (hb hby at_95) k) ?_
          show Go p e below _ (s₁.setTop (mkF m 98 #[.val (.int p0), .val (.int p1), .val (.int p2), .val (.int p3), .val (.int kk), .val (.int t0), .val (.int t1), .val (.int lt), .val (.int k0), .val (.int k1), .unset, .unset, .unset, .unset, .unset, .unset, .unset] [(.int (255 : Int32)), (.int ((p3.toUInt32 >>> ((24 : Int32) &&& 31).toUInt32).toInt32))]))
          refine Go.step (fun _ k => XS.iand X0.here hx rfl (hb hby at_98) rfl k) ?_
          show Go p e below _ (s₁.setTop (mkF m 99 #[.val (.int p0), .val (.int p1), .val (.int p2), .val (.int p3), .val (.int kk), .val (.int t0), .val (.int t1), .val (.int lt), .val (.int k0), .val (.int k1), .unset, .unset, .unset, .unset, .unset, .unset, .unset] [(.int (((p3.toUInt32 >>> ((24 : Int32) &&& 31).toUInt32).toInt32) &&& (255 : Int32)))]))
          refine Go.step (fun _ k => XS.iconst X0.here hx rfl (hb hby at_99) k) ?_
          show Go p e below _ (s₁.setTop (mkF m 100 #[.val (.int p0), .val (.int p1), .val (.int p2), .val (.int p3), .val (.int kk), .val (.int t0), .val (.int t1), .val (.int lt), .val (.int k0), .val (.int k1), .unset, .unset, .unset, .unset, .unset, .unset, .unset] [(.int (3 : Int32)), (.int (((p3.toUInt32 >>> ((24 : Int32) &&& 31).toUInt32).toInt32) &&& (255 : Int32)))]))
          refine Go.step (fun _ k => iremM X0 hx rfl (hb hby at_100) rfl (by decide) k) ?_
          show Go p e below _ (s₁.setTop (mkF m 101 #[.val (.int p0), .val (.int p1), .val (.int p2), .val (.int p3), .val (.int kk), .val (.int t0), .val (.int t1), .val (.int lt), .val (.int k0), .val (.int k1), .unset, .unset, .unset, .unset, .unset, .unset, .unset] [(.int ((((p3.toUInt32 >>> ((24 : Int32) &&& 31).toUInt32).toInt32) &&& (255 : Int32)) % (3 : Int32)))]))
          exact J106 _ (rem3b _)
        · skip
          refine Go.step (fun _ k => XS.ifNo X0.here hx rfl (hb hby at_83) rfl ((if0 _ _).trans (feq b2).1) k) ?_
          show Go p e below _ (s₁.setTop (mkF m 86 #[.val (.int p0), .val (.int p1), .val (.int p2), .val (.int p3), .val (.int kk), .val (.int t0), .val (.int t1), .val (.int lt), .val (.int k0), .val (.int k1), .unset, .unset, .unset, .unset, .unset, .unset, .unset] []))
          refine Go.step (fun _ k => XS.iload X0.here hx rfl (hb hby at_86) rfl  k) ?_
          show Go p e below _ (s₁.setTop (mkF m 88 #[.val (.int p0), .val (.int p1), .val (.int p2), .val (.int p3), .val (.int kk), .val (.int t0), .val (.int t1), .val (.int lt), .val (.int k0), .val (.int k1), .unset, .unset, .unset, .unset, .unset, .unset, .unset] [(.int lt)]))
          refine Go.step (fun _ k => XS.goto X0.here hx rfl (pc0 := 88) (pc' := 101) rfl (hb hby at_88) (by decide) (by decide) k) ?_
          show Go p e below _ (s₁.setTop (mkF m 101 #[.val (.int p0), .val (.int p1), .val (.int p2), .val (.int p3), .val (.int kk), .val (.int t0), .val (.int t1), .val (.int lt), .val (.int k0), .val (.int k1), .unset, .unset, .unset, .unset, .unset, .unset, .unset] [(.int lt)]))
          exact J106 _ h_lt3
      · skip
        intro lk h_lk
        have h_lk : 0 ≤ lk.toInt ∧ lk.toInt < 3 := h_lk
        show Go p e below _ (s₁.setTop (mkF m 101 #[.val (.int p0), .val (.int p1), .val (.int p2), .val (.int p3), .val (.int kk), .val (.int t0), .val (.int t1), .val (.int lt), .val (.int k0), .val (.int k1), .unset, .unset, .unset, .unset, .unset, .unset, .unset] [(.int lk)]))
        refine Go.step (fun _ k => XS.istore X0.here hx rfl (hb hby at_101) rfl (l' := #[.val (.int p0), .val (.int p1), .val (.int p2), .val (.int p3), .val (.int kk), .val (.int t0), .val (.int t1), .val (.int lt), .val (.int k0), .val (.int k1), .val (.int lk), .unset, .unset, .unset, .unset, .unset, .unset]) rfl k) ?_
        show Go p e below _ (s₁.setTop (mkF m 103 #[.val (.int p0), .val (.int p1), .val (.int p2), .val (.int p3), .val (.int kk), .val (.int t0), .val (.int t1), .val (.int lt), .val (.int k0), .val (.int k1), .val (.int lk), .unset, .unset, .unset, .unset, .unset, .unset] []))
        refine Go.step (fun _ k => XS.iload X0.here hx rfl (hb hby at_103) rfl  k) ?_
        show Go p e below _ (s₁.setTop (mkF m 105 #[.val (.int p0), .val (.int p1), .val (.int p2), .val (.int p3), .val (.int kk), .val (.int t0), .val (.int t1), .val (.int lt), .val (.int k0), .val (.int k1), .val (.int lk), .unset, .unset, .unset, .unset, .unset, .unset] [(.int lt)]))
        refine Go.step (fun _ k => XS.iload X0.here hx rfl (hb hby at_105) rfl  k) ?_
        show Go p e below _ (s₁.setTop (mkF m 107 #[.val (.int p0), .val (.int p1), .val (.int p2), .val (.int p3), .val (.int kk), .val (.int t0), .val (.int t1), .val (.int lt), .val (.int k0), .val (.int k1), .val (.int lk), .unset, .unset, .unset, .unset, .unset, .unset] [(.int t0), (.int lt)]))
        refine Go.step (fun _ k => XS.iload X0.here hx rfl (hb hby at_107) rfl  k) ?_
        show Go p e below _ (s₁.setTop (mkF m 109 #[.val (.int p0), .val (.int p1), .val (.int p2), .val (.int p3), .val (.int kk), .val (.int t0), .val (.int t1), .val (.int lt), .val (.int k0), .val (.int k1), .val (.int lk), .unset, .unset, .unset, .unset, .unset, .unset] [(.int t1), (.int t0), (.int lt)]))
        obtain ⟨v_107, T_107, L_107, X_107, hQ_107, hS_107, hZ_107, hown_107, C_107, st_107⟩ := goSW X0 hx hZ (y := ({ cls := "com/example/stubwright/stubwright/idl/TokenIsKeywordPinLaw", name := "mk", desc := "(ICC)Ljava/lang/String;" } : Jvm.MethodName)) hown hS0 hk0 (wd_1 hw) (wd_2 hw) (wd_3 hw) (wd_4 hw) (by decide) (backOfSH (W := 0) (rm_mk l Z a0 hw zc kd0 kd1 kd2 kd3 kd4 kd5 kd6 kd7 kd8 kd9 kd10 kd11 kd12 kd13 kd14 kd15 kd16 kd17 (lt) (t0) (t1) h0 n0 (Nat.le_trans Z0 KP0.1) l_t0 l_t1 hSt hO) hZ (wd_4 hw) (wd_3 hw) (by decide) (by decide) hEL CV0) e0 (g := (mkF m 109 #[.val (.int p0), .val (.int p1), .val (.int p2), .val (.int p3), .val (.int kk), .val (.int t0), .val (.int t1), .val (.int lt), .val (.int k0), .val (.int k1), .val (.int lk), .unset, .unset, .unset, .unset, .unset, .unset] [(.int t1), (.int t0), (.int lt)])) rfl (by rw [hml]; rfl) (argsL := [(.int lt), (.int t0), (.int t1)]) (rest := []) rfl (lenOf pd_5 rfl) rfl (by show 2 * 0 + _ ≤ _; exact Nat.le_of_eq rfl) (hb hby at_109) (by decide) (by decide)
        obtain ⟨r_107, rfl, Nq_107, K_107, u0_107, u1_107⟩ := hQ_107
        have N_107 := Fr.app N0 Nq_107
        have CR_107 := CHr.trans (CHr.refl CV0) C_107
        have le_107 : h0.size ≤ T_107.heap.size := K_107.1
        have KP_107 := KP0.trans K_107 all0
        have O_107 := hO.keep K_107 all0
        have sz_r_107 : h0.size ≤ r_107 := Nat.le_trans (Nat.le_refl _) u0_107
        have g_r_107 : n0 ≤ r_107 := Nat.le_trans Z0 sz_r_107
        refine Go.step st_107 ?_
        show Go p e below _ (T_107.setTop (mkF m 112 #[.val (.int p0), .val (.int p1), .val (.int p2), .val (.int p3), .val (.int kk), .val (.int t0), .val (.int t1), .val (.int lt), .val (.int k0), .val (.int k1), .val (.int lk), .unset, .unset, .unset, .unset, .unset, .unset] [(.ref r_107)]))
        refine Go.step (fun _ k => XS.astore X_107.here hx rfl (hb hby at_112) rfl rfl (l' := #[.val (.int p0), .val (.int p1), .val (.int p2), .val (.int p3), .val (.int kk), .val (.int t0), .val (.int t1), .val (.int lt), .val (.int k0), .val (.int k1), .val (.int lk), .val (.ref r_107), .unset, .unset, .unset, .unset, .unset]) rfl k) ?_
        show Go p e below _ (T_107.setTop (mkF m 114 #[.val (.int p0), .val (.int p1), .val (.int p2), .val (.int p3), .val (.int kk), .val (.int t0), .val (.int t1), .val (.int lt), .val (.int k0), .val (.int k1), .val (.int lk), .val (.ref r_107), .unset, .unset, .unset, .unset, .unset] []))
        refine Go.step (fun _ k => XS.iload X_107.here hx rfl (hb hby at_114) rfl  k) ?_
        show Go p e below _ (T_107.setTop (mkF m 116 #[.val (.int p0), .val (.int p1), .val (.int p2), .val (.int p3), .val (.int kk), .val (.int t0), .val (.int t1), .val (.int lt), .val (.int k0), .val (.int k1), .val (.int lk), .val (.ref r_107), .unset, .unset, .unset, .unset, .unset] [(.int lk)]))
        refine Go.step (fun _ k => XS.iload X_107.here hx rfl (hb hby at_116) rfl  k) ?_
        show Go p e below _ (T_107.setTop (mkF m 118 #[.val (.int p0), .val (.int p1), .val (.int p2), .val (.int p3), .val (.int kk), .val (.int t0), .val (.int t1), .val (.int lt), .val (.int k0), .val (.int k1), .val (.int lk), .val (.ref r_107), .unset, .unset, .unset, .unset, .unset] [(.int k0), (.int lk)]))
        refine Go.step (fun _ k => XS.iload X_107.here hx rfl (hb hby at_118) rfl  k) ?_
        show Go p e below _ (T_107.setTop (mkF m 120 #[.val (.int p0), .val (.int p1), .val (.int p2), .val (.int p3), .val (.int kk), .val (.int t0), .val (.int t1), .val (.int lt), .val (.int k0), .val (.int k1), .val (.int lk), .val (.ref r_107), .unset, .unset, .unset, .unset, .unset] [(.int k1), (.int k0), (.int lk)]))
        obtain ⟨v_108, T_108, L_108, X_108, hQ_108, hS_108, hZ_108, hown_108, C_108, st_108⟩ := goSW X_107 hx hZ_107 (y := ({ cls := "com/example/stubwright/stubwright/idl/TokenIsKeywordPinLaw", name := "mk", desc := "(ICC)Ljava/lang/String;" } : Jvm.MethodName)) hown_107 hS_107 (Nat.le_refl _) (wd_1 hw) (wd_2 hw) (wd_3 hw) (wd_4 hw) (by decide) (backOfSH (W := 0) (rm_mk l Z a0 hw zc kd0 kd1 kd2 kd3 kd4 kd5 kd6 kd7 kd8 kd9 kd10 kd11 kd12 kd13 kd14 kd15 kd16 kd17 (lk) (k0) (k1) T_107.heap n0 (Nat.le_trans Z0 KP_107.1) h_k0 h_k1 hSt O_107) hZ_107 (wd_4 hw) (wd_3 hw) (by decide) (by decide) hEL C_107.1) rfl (g := (mkF m 120 #[.val (.int p0), .val (.int p1), .val (.int p2), .val (.int p3), .val (.int kk), .val (.int t0), .val (.int t1), .val (.int lt), .val (.int k0), .val (.int k1), .val (.int lk), .val (.ref r_107), .unset, .unset, .unset, .unset, .unset] [(.int k1), (.int k0), (.int lk)])) rfl (by rw [hml]; rfl) (argsL := [(.int lk), (.int k0), (.int k1)]) (rest := []) rfl (lenOf pd_5 rfl) rfl (by show 2 * 0 + _ ≤ _; exact Nat.le_of_eq rfl) (hb hby at_120) (by decide) (by decide)
        obtain ⟨r_108, rfl, Nq_108, K_108, u0_108, u1_108⟩ := hQ_108
        have N_108 := Fr.app N_107 Nq_108
        have CR_108 := CHr.trans CR_107 C_108
        have le_108 : T_107.heap.size ≤ T_108.heap.size := K_108.1
        have KP_108 := KP_107.trans K_108 all0
        have O_108 := O_107.keep K_108 all0
        have sz_r_108 : h0.size ≤ r_108 := Nat.le_trans le_107 u0_108
        have g_r_108 : n0 ≤ r_108 := Nat.le_trans Z0 sz_r_108
        refine Go.step st_108 ?_
        show Go p e below _ (T_108.setTop (mkF m 123 #[.val (.int p0), .val (.int p1), .val (.int p2), .val (.int p3), .val (.int kk), .val (.int t0), .val (.int t1), .val (.int lt), .val (.int k0), .val (.int k1), .val (.int lk), .val (.ref r_107), .unset, .unset, .unset, .unset, .unset] [(.ref r_108)]))
        refine Go.step (fun _ k => XS.astore X_108.here hx rfl (hb hby at_123) rfl rfl (l' := #[.val (.int p0), .val (.int p1), .val (.int p2), .val (.int p3), .val (.int kk), .val (.int t0), .val (.int t1), .val (.int lt), .val (.int k0), .val (.int k1), .val (.int lk), .val (.ref r_107), .val (.ref r_108), .unset, .unset, .unset, .unset]) rfl k) ?_
        show Go p e below _ (T_108.setTop (mkF m 125 #[.val (.int p0), .val (.int p1), .val (.int p2), .val (.int p3), .val (.int kk), .val (.int t0), .val (.int t1), .val (.int lt), .val (.int k0), .val (.int k1), .val (.int lk), .val (.ref r_107), .val (.ref r_108), .unset, .unset, .unset, .unset] []))
        refine Go.step (fun _ k => XS.iload X_108.here hx rfl (hb hby at_125) rfl  k) ?_
        show Go p e below _ (T_108.setTop (mkF m 127 #[.val (.int p0), .val (.int p1), .val (.int p2), .val (.int p3), .val (.int kk), .val (.int t0), .val (.int t1), .val (.int lt), .val (.int k0), .val (.int k1), .val (.int lk), .val (.ref r_107), .val (.ref r_108), .unset, .unset, .unset, .unset] [(.int lt)]))
        refine Go.step (fun _ k => XS.iload X_108.here hx rfl (hb hby at_127) rfl  k) ?_
        show Go p e below _ (T_108.setTop (mkF m 129 #[.val (.int p0), .val (.int p1), .val (.int p2), .val (.int p3), .val (.int kk), .val (.int t0), .val (.int t1), .val (.int lt), .val (.int k0), .val (.int k1), .val (.int lk), .val (.ref r_107), .val (.ref r_108), .unset, .unset, .unset, .unset] [(.int lk), (.int lt)]))
        refine own_join (t := T_108.setTop (mkF m 163 #[.val (.int p0), .val (.int p1), .val (.int p2), .val (.int p3), .val (.int kk), .val (.int t0), .val (.int t1), .val (.int lt), .val (.int k0), .val (.int k1), .val (.int lk), .val (.ref r_107), .val (.ref r_108), .unset, .unset, .unset, .unset] [(.int (if mkL lt t0 t1 = mkL lk k0 k1 then (1 : Int32) else 0))])) (fun J109 => ?_) ?_
        · skip
          by_cases r0 : lt = lk
          · skip
            refine Go.step (fun _ k => XS.icmpNo X_108.here hx rfl (hb hby at_129) rfl (teq r0).2 k) ?_
            show Go p e below _ (T_108.setTop (mkF m 132 #[.val (.int p0), .val (.int p1), .val (.int p2), .val (.int p3), .val (.int kk), .val (.int t0), .val (.int t1), .val (.int lt), .val (.int k0), .val (.int k1), .val (.int lk), .val (.ref r_107), .val (.ref r_108), .unset, .unset, .unset, .unset] []))
            refine Go.step (fun _ k => XS.iload X_108.here hx rfl (hb hby at_132) rfl  k) ?_
            show Go p e below _ (T_108.setTop (mkF m 134 #[.val (.int p0), .val (.int p1), .val (.int p2), .val (.int p3), .val (.int kk), .val (.int t0), .val (.int t1), .val (.int lt), .val (.int k0), .val (.int k1), .val (.int lk), .val (.ref r_107), .val (.ref r_108), .unset, .unset, .unset, .unset] [(.int lt)]))
            refine Go.step (fun _ k => XS.iconst X_108.here hx rfl (hb hby at_134) k) ?_
            show Go p e below _ (T_108.setTop (mkF m 135 #[.val (.int p0), .val (.int p1), .val (.int p2), .val (.int p3), .val (.int kk), .val (.int t0), .val (.int t1), .val (.int lt), .val (.int k0), .val (.int k1), .val (.int lk), .val (.ref r_107), .val (.ref r_108), .unset, .unset, .unset, .unset] [(.int (1 : Int32)), (.int lt)]))
            by_cases r1 : lt < (1 : Int32)
            · skip
              refine Go.step (fun _ k => XS.icmpYes X_108.here hx rfl (pc0 := 135) (pc' := 145) rfl (hb hby at_135) rfl (tlt r1).1 (by decide) (by decide) k) ?_
              show Go p e below _ (T_108.setTop (mkF m 145 #[.val (.int p0), .val (.int p1), .val (.int p2), .val (.int p3), .val (.int kk), .val (.int t0), .val (.int t1), .val (.int lt), .val (.int k0), .val (.int k1), .val (.int lk), .val (.ref r_107), .val (.ref r_108), .unset, .unset, .unset, .unset] []))
              refine Go.step (fun _ k => XS.iload X_108.here hx rfl (hb hby at_145) rfl  k) ?_
              show Go p e below _ (T_108.setTop (mkF m 147 #[.val (.int p0), .val (.int p1), .val (.int p2), .val (.int p3), .val (.int kk), .val (.int t0), .val (.int t1), .val (.int lt), .val (.int k0), .val (.int k1), .val (.int lk), .val (.ref r_107), .val (.ref r_108), .unset, .unset, .unset, .unset] [(.int lt)]))
              refine Go.step (fun _ k => XS.iconst X_108.here hx rfl (hb hby at_147) k) ?_
              show Go p e below _ (T_108.setTop (mkF m 148 #[.val (.int p0), .val (.int p1), .val (.int p2), .val (.int p3), .val (.int kk), .val (.int t0), .val (.int t1), .val (.int lt), .val (.int k0), .val (.int k1), .val (.int lk), .val (.ref r_107), .val (.ref r_108), .unset, .unset, .unset, .unset] [(.int (2 : Int32)), (.int lt)]))
              by_cases r3 : lt < (2 : Int32)
              · skip
                refine Go.step (fun _ k => XS.icmpYes X_108.here hx rfl (pc0 := 148) (pc' := 158) rfl (hb hby at_148) rfl (tlt r3).1 (by decide) (by decide) k) ?_
                show Go p e below _ (T_108.setTop (mkF m 158 #[.val (.int p0), .val (.int p1), .val (.int p2), .val (.int p3), .val (.int kk), .val (.int t0), .val (.int t1), .val (.int lt), .val (.int k0), .val (.int k1), .val (.int lk), .val (.ref r_107), .val (.ref r_108), .unset, .unset, .unset, .unset] []))
                refine Go.step (fun _ k => XS.iconst X_108.here hx rfl (hb hby at_158) k) ?_
                show Go p e below _ (T_108.setTop (mkF m 159 #[.val (.int p0), .val (.int p1), .val (.int p2), .val (.int p3), .val (.int kk), .val (.int t0), .val (.int t1), .val (.int lt), .val (.int k0), .val (.int k1), .val (.int lk), .val (.ref r_107), .val (.ref r_108), .unset, .unset, .unset, .unset] [(.int (1 : Int32))]))
                refine Go.step (fun _ k => XS.goto X_108.here hx rfl (pc0 := 159) (pc' := 163) rfl (hb hby at_159) (by decide) (by decide) k) ?_
                show Go p e below _ (T_108.setTop (mkF m 163 #[.val (.int p0), .val (.int p1), .val (.int p2), .val (.int p3), .val (.int kk), .val (.int t0), .val (.int t1), .val (.int lt), .val (.int k0), .val (.int k1), .val (.int lk), .val (.ref r_107), .val (.ref r_108), .unset, .unset, .unset, .unset] [(.int (1 : Int32))]))
                refine own_top (congrArg Value.int (show (1 : Int32) = (if mkL lt t0 t1 = mkL lk k0 k1 then (1 : Int32) else 0) from (if_pos ((mkL_iff h_lt3 h_lk).mpr ⟨r0, Or.inl r1, Or.inl r3⟩)).symm)) ?_
                exact J109
              · skip
                refine Go.step (fun _ k => XS.icmpNo X_108.here hx rfl (hb hby at_148) rfl (flt r3).1 k) ?_
                show Go p e below _ (T_108.setTop (mkF m 151 #[.val (.int p0), .val (.int p1), .val (.int p2), .val (.int p3), .val (.int kk), .val (.int t0), .val (.int t1), .val (.int lt), .val (.int k0), .val (.int k1), .val (.int lk), .val (.ref r_107), .val (.ref r_108), .unset, .unset, .unset, .unset] []))
                refine Go.step (fun _ k => XS.iload X_108.here hx rfl (hb hby at_151) rfl  k) ?_
                show Go p e below _ (T_108.setTop (mkF m 153 #[.val (.int p0), .val (.int p1), .val (.int p2), .val (.int p3), .val (.int kk), .val (.int t0), .val (.int t1), .val (.int lt), .val (.int k0), .val (.int k1), .val (.int lk), .val (.ref r_107), .val (.ref r_108), .unset, .unset, .unset, .unset] [(.int t1)]))
                refine Go.step (fun _ k => XS.iload X_108.here hx rfl (hb hby at_153) rfl  k) ?_
                show Go p e below _ (T_108.setTop (mkF m 155 #[.val (.int p0), .val (.int p1), .val (.int p2), .val (.int p3), .val (.int kk), .val (.int t0), .val (.int t1), .val (.int lt), .val (.int k0), .val (.int k1), .val (.int lk), .val (.ref r_107), .val (.ref r_108), .unset, .unset, .unset, .unset] [(.int k1), (.int t1)]))
                by_cases r4 : t1 = k1
                · skip
                  refine Go.step (fun _ k => XS.icmpNo X_108.here hx rfl (hb hby at_155) rfl (teq r4).2 k) ?_
                  show Go p e below _ (T_108.setTop (mkF m 158 #[.val (.int p0), .val (.int p1), .val (.int p2), .val (.int p3), .val (.int kk), .val (.int t0), .val (.int t1), .val (.int lt), .val (.int k0), .val (.int k1), .val (.int lk), .val (.ref r_107), .val (.ref r_108), .unset, .unset, .unset, .unset] []))
                  refine Go.step (fun _ k => XS.iconst X_108.here hx rfl (hb hby at_158) k) ?_
                  show Go p e below _ (T_108.setTop (mkF m 159 #[.val (.int p0), .val (.int p1), .val (.int p2), .val (.int p3), .val (.int kk), .val (.int t0), .val (.int t1), .val (.int lt), .val (.int k0), .val (.int k1), .val (.int lk), .val (.ref r_107), .val (.ref r_108), .unset, .unset, .unset, .unset] [(.int (1 : Int32))]))
                  refine Go.step (fun _ k => XS.goto X_108.here hx rfl (pc0 := 159) (pc' := 163) rfl (hb hby at_159) (by decide) (by decide) k) ?_
                  show Go p e below _ (T_108.setTop (mkF m 163 #[.val (.int p0), .val (.int p1), .val (.int p2), .val (.int p3), .val (.int kk), .val (.int t0), .val (.int t1), .val (.int lt), .val (.int k0), .val (.int k1), .val (.int lk), .val (.ref r_107), .val (.ref r_108), .unset, .unset, .unset, .unset] [(.int (1 : Int32))]))
                  refine own_top (congrArg Value.int (show (1 : Int32) = (if mkL lt t0 t1 = mkL lk k0 k1 then (1 : Int32) else 0) from (if_pos ((mkL_iff h_lt3 h_lk).mpr ⟨r0, Or.inl r1, Or.inr r4⟩)).symm)) ?_
                  exact J109
                · skip
                  refine Go.step (fun _ k => XS.icmpYes X_108.here hx rfl (pc0 := 155) (pc' := 162) rfl (hb hby at_155) rfl (feq r4).2 (by decide) (by decide) k) ?_
                  show Go p e below _ (T_108.setTop (mkF m 162 #[.val (.int p0), .val (.int p1), .val (.int p2), .val (.int p3), .val (.int kk), .val (.int t0), .val (.int t1), .val (.int lt), .val (.int k0), .val (.int k1), .val (.int lk), .val (.ref r_107), .val (.ref r_108), .unset, .unset, .unset, .unset] []))
                  refine Go.step (fun _ k => XS.iconst X_108.here hx rfl (hb hby at_162) k) ?_
                  show Go p e below _ (T_108.setTop (mkF m 163 #[.val (.int p0), .val (.int p1), .val (.int p2), .val (.int p3), .val (.int kk), .val (.int t0), .val (.int t1), .val (.int lt), .val (.int k0), .val (.int k1), .val (.int lk), .val (.ref r_107), .val (.ref r_108), .unset, .unset, .unset, .unset] [(.int (0 : Int32))]))
                  refine own_top (congrArg Value.int (show (0 : Int32) = (if mkL lt t0 t1 = mkL lk k0 k1 then (1 : Int32) else 0) from (if_neg (fun q => ((mkL_iff h_lt3 h_lk).mp q).2.2.elim r3 r4)).symm)) ?_
                  exact J109
            · skip
              refine Go.step (fun _ k => XS.icmpNo X_108.here hx rfl (hb hby at_135) rfl (flt r1).1 k) ?_
              show Go p e below _ (T_108.setTop (mkF m 138 #[.val (.int p0), .val (.int p1), .val (.int p2), .val (.int p3), .val (.int kk), .val (.int t0), .val (.int t1), .val (.int lt), .val (.int k0), .val (.int k1), .val (.int lk), .val (.ref r_107), .val (.ref r_108), .unset, .unset, .unset, .unset] []))
              refine Go.step (fun _ k => XS.iload X_108.here hx rfl (hb hby at_138) rfl  k) ?_
              show Go p e below _ (T_108.setTop (mkF m 140 #[.val (.int p0), .val (.int p1), .val (.int p2), .val (.int p3), .val (.int kk), .val (.int t0), .val (.int t1), .val (.int lt), .val (.int k0), .val (.int k1), .val (.int lk), .val (.ref r_107), .val (.ref r_108), .unset, .unset, .unset, .unset] [(.int t0)]))
              refine Go.step (fun _ k => XS.iload X_108.here hx rfl (hb hby at_140) rfl  k) ?_
              show Go p e below _ (T_108.setTop (mkF m 142 #[.val (.int p0), .val (.int p1), .val (.int p2), .val (.int p3), .val (.int kk), .val (.int t0), .val (.int t1), .val (.int lt), .val (.int k0), .val (.int k1), .val (.int lk), .val (.ref r_107), .val (.ref r_108), .unset, .unset, .unset, .unset] [(.int k0), (.int t0)]))
              by_cases r2 : t0 = k0
              · skip
                refine Go.step (fun _ k => XS.icmpNo X_108.here hx rfl (hb hby at_142) rfl (teq r2).2 k) ?_
                show Go p e below _ (T_108.setTop (mkF m 145 #[.val (.int p0), .val (.int p1), .val (.int p2), .val (.int p3), .val (.int kk), .val (.int t0), .val (.int t1), .val (.int lt), .val (.int k0), .val (.int k1), .val (.int lk), .val (.ref r_107), .val (.ref r_108), .unset, .unset, .unset, .unset] []))
                refine Go.step (fun _ k => XS.iload X_108.here hx rfl (hb hby at_145) rfl  k) ?_
                show Go p e below _ (T_108.setTop (mkF m 147 #[.val (.int p0), .val (.int p1), .val (.int p2), .val (.int p3), .val (.int kk), .val (.int t0), .val (.int t1), .val (.int lt), .val (.int k0), .val (.int k1), .val (.int lk), .val (.ref r_107), .val (.ref r_108), .unset, .unset, .unset, .unset] [(.int lt)]))
                refine Go.step (fun _ k => XS.iconst X_108.here hx rfl (hb hby at_147) k) ?_
                show Go p e below _ (T_108.setTop (mkF m 148 #[.val (.int p0), .val (.int p1), .val (.int p2), .val (.int p3), .val (.int kk), .val (.int t0), .val (.int t1), .val (.int lt), .val (.int k0), .val (.int k1), .val (.int lk), .val (.ref r_107), .val (.ref r_108), .unset, .unset, .unset, .unset] [(.int (2 : Int32)), (.int lt)]))
                by_cases r3 : lt < (2 : Int32)
                · skip
                  refine Go.step (fun _ k => XS.icmpYes X_108.here hx rfl (pc0 := 148) (pc' := 158) rfl (hb hby at_148) rfl (tlt r3).1 (by decide) (by decide) k) ?_
                  show Go p e below _ (T_108.setTop (mkF m 158 #[.val (.int p0), .val (.int p1), .val (.int p2), .val (.int p3), .val (.int kk), .val (.int t0), .val (.int t1), .val (.int lt), .val (.int k0), .val (.int k1), .val (.int lk), .val (.ref r_107), .val (.ref r_108), .unset, .unset, .unset, .unset] []))
                  refine Go.step (fun _ k => XS.iconst X_108.here hx rfl (hb hby at_158) k) ?_
                  show Go p e below _ (T_108.setTop (mkF m 159 #[.val (.int p0), .val (.int p1), .val (.int p2), .val (.int p3), .val (.int kk), .val (.int t0), .val (.int t1), .val (.int lt), .val (.int k0), .val (.int k1), .val (.int lk), .val (.ref r_107), .val (.ref r_108), .unset, .unset, .unset, .unset] [(.int (1 : Int32))]))
                  refine Go.step (fun _ k => XS.goto X_108.here hx rfl (pc0 := 159) (pc' := 163) rfl (hb hby at_159) (by decide) (by decide) k) ?_
                  show Go p e below _ (T_108.setTop (mkF m 163 #[.val (.int p0), .val (.int p1), .val (.int p2), .val (.int p3), .val (.int kk), .val (.int t0), .val (.int t1), .val (.int lt), .val (.int k0), .val (.int k1), .val (.int lk), .val (.ref r_107), .val (.ref r_108), .unset, .unset, .unset, .unset] [(.int (1 : Int32))]))
                  refine own_top (congrArg Value.int (show (1 : Int32) = (if mkL lt t0 t1 = mkL lk k0 k1 then (1 : Int32) else 0) from (if_pos ((mkL_iff h_lt3 h_lk).mpr ⟨r0, Or.inr r2, Or.inl r3⟩)).symm)) ?_
                  exact J109
                · skip
                  refine Go.step (fun _ k => XS.icmpNo X_108.here hx rfl (hb hby at_148) rfl (flt r3).1 k) ?_
                  show Go p e below _ (T_108.setTop (mkF m 151 #[.val (.int p0), .val (.int p1), .val (.int p2), .val (.int p3), .val (.int kk), .val (.int t0), .val (.int t1), .val (.int lt), .val (.int k0), .val (.int k1), .val (.int lk), .val (.ref r_107), .val (.ref r_108), .unset, .unset, .unset, .unset] []))
                  refine Go.step (fun _ k => XS.iload X_108.here hx rfl (hb hby at_151) rfl  k) ?_
                  show Go p e below _ (T_108.setTop (mkF m 153 #[.val (.int p0), .val (.int p1), .val (.int p2), .val (.int p3), .val (.int kk), .val (.int t0), .val (.int t1), .val (.int lt), .val (.int k0), .val (.int k1), .val (.int lk), .val (.ref r_107), .val (.ref r_108), .unset, .unset, .unset, .unset] [(.int t1)]))
                  refine Go.step (fun _ k => XS.iload X_108.here hx rfl (hb hby at_153) rfl  k) ?_
                  show Go p e below _ (T_108.setTop (mkF m 155 #[.val (.int p0), .val (.int p1), .val (.int p2), .val (.int p3), .val (.int kk), .val (.int t0), .val (.int t1), .val (.int lt), .val (.int k0), .val (.int k1), .val (.int lk), .val (.ref r_107), .val (.ref r_108), .unset, .unset, .unset, .unset] [(.int k1), (.int t1)]))
                  by_cases r4 : t1 = k1
                  · skip
                    refine Go.step (fun _ k => XS.icmpNo X_108.here hx rfl (hb hby at_155) rfl (teq r4).2 k) ?_
                    show Go p e below _ (T_108.setTop (mkF m 158 #[.val (.int p0), .val (.int p1), .val (.int p2), .val (.int p3), .val (.int kk), .val (.int t0), .val (.int t1), .val (.int lt), .val (.int k0), .val (.int k1), .val (.int lk), .val (.ref r_107), .val (.ref r_108), .unset, .unset, .unset, .unset] []))
                    refine Go.step (fun _ k => XS.iconst X_108.here hx rfl (hb hby at_158) k) ?_
                    show Go p e below _ (T_108.setTop (mkF m 159 #[.val (.int p0), .val (.int p1), .val (.int p2), .val (.int p3), .val (.int kk), .val (.int t0), .val (.int t1), .val (.int lt), .val (.int k0), .val (.int k1), .val (.int lk), .val (.ref r_107), .val (.ref r_108), .unset, .unset, .unset, .unset] [(.int (1 : Int32))]))
                    refine Go.step (fun _ k => XS.goto X_108.here hx rfl (pc0 := 159) (pc' := 163) rfl (hb hby at_159) (by decide) (by decide) k) ?_
                    show Go p e below _ (T_108.setTop (mkF m 163 #[.val (.int p0), .val (.int p1), .val (.int p2), .val (.int p3), .val (.int kk), .val (.int t0), .val (.int t1), .val (.int lt), .val (.int k0), .val (.int k1), .val (.int lk), .val (.ref r_107), .val (.ref r_108), .unset, .unset, .unset, .unset] [(.int (1 : Int32))]))
                    refine own_top (congrArg Value.int (show (1 : Int32) = (if mkL lt t0 t1 = mkL lk k0 k1 then (1 : Int32) else 0) from (if_pos ((mkL_iff h_lt3 h_lk).mpr ⟨r0, Or.inr r2, Or.inr r4⟩)).symm)) ?_
                    exact J109
                  · skip
                    refine Go.step (fun _ k => XS.icmpYes X_108.here hx rfl (pc0 := 155) (pc' := 162) rfl (hb hby at_155) rfl (feq r4).2 (by decide) (by decide) k) ?_
                    show Go p e below _ (T_108.setTop (mkF m 162 #[.val (.int p0), .val (.int p1), .val (.int p2), .val (.int p3), .val (.int kk), .val (.int t0), .val (.int t1), .val (.int lt), .val (.int k0), .val (.int k1), .val (.int lk), .val (.ref r_107), .val (.ref r_108), .unset, .unset, .unset, .unset] []))
                    refine Go.step (fun _ k => XS.iconst X_108.here hx rfl (hb hby at_162) k) ?_
                    show Go p e below _ (T_108.setTop (mkF m 163 #[.val (.int p0), .val (.int p1), .val (.int p2), .val (.int p3), .val (.int kk), .val (.int t0), .val (.int t1), .val (.int lt), .val (.int k0), .val (.int k1), .val (.int lk), .val (.ref r_107), .val (.ref r_108), .unset, .unset, .unset, .unset] [(.int (0 : Int32))]))
                    refine own_top (congrArg Value.int (show (0 : Int32) = (if mkL lt t0 t1 = mkL lk k0 k1 then (1 : Int32) else 0) from (if_neg (fun q => ((mkL_iff h_lt3 h_lk).mp q).2.2.elim r3 r4)).symm)) ?_
                    exact J109
              · skip
                refine Go.step (fun _ k => XS.icmpYes X_108.here hx rfl (pc0 := 142) (pc' := 162) rfl (hb hby at_142) rfl (feq r2).2 (by decide) (by decide) k) ?_
                show Go p e below _ (T_108.setTop (mkF m 162 #[.val (.int p0), .val (.int p1), .val (.int p2), .val (.int p3), .val (.int kk), .val (.int t0), .val (.int t1), .val (.int lt), .val (.int k0), .val (.int k1), .val (.int lk), .val (.ref r_107), .val (.ref r_108), .unset, .unset, .unset, .unset] []))
                refine Go.step (fun _ k => XS.iconst X_108.here hx rfl (hb hby at_162) k) ?_
                show Go p e below _ (T_108.setTop (mkF m 163 #[.val (.int p0), .val (.int p1), .val (.int p2), .val (.int p3), .val (.int kk), .val (.int t0), .val (.int t1), .val (.int lt), .val (.int k0), .val (.int k1), .val (.int lk), .val (.ref r_107), .val (.ref r_108), .unset, .unset, .unset, .unset] [(.int (0 : Int32))]))
                refine own_top (congrArg Value.int (show (0 : Int32) = (if mkL lt t0 t1 = mkL lk k0 k1 then (1 : Int32) else 0) from (if_neg (fun q => ((mkL_iff h_lt3 h_lk).mp q).2.1.elim r1 r2)).symm)) ?_
                exact J109
          · skip
            refine Go.step (fun _ k => XS.icmpYes X_108.here hx rfl (pc0 := 129) (pc' := 162) rfl (hb hby at_129) rfl (feq r0).2 (by decide) (by decide) k) ?_
            show Go p e below _ (T_108.setTop (mkF m 162 #[.val (.int p0), .val (.int p1), .val (.int p2), .val (.int p3), .val (.int kk), .val (.int t0), .val (.int t1), .val (.int lt), .val (.int k0), .val (.int k1), .val (.int lk), .val (.ref r_107), .val (.ref r_108), .unset, .unset, .unset, .unset] []))
            refine Go.step (fun _ k => XS.iconst X_108.here hx rfl (hb hby at_162) k) ?_
            show Go p e below _ (T_108.setTop (mkF m 163 #[.val (.int p0), .val (.int p1), .val (.int p2), .val (.int p3), .val (.int kk), .val (.int t0), .val (.int t1), .val (.int lt), .val (.int k0), .val (.int k1), .val (.int lk), .val (.ref r_107), .val (.ref r_108), .unset, .unset, .unset, .unset] [(.int (0 : Int32))]))
            refine own_top (congrArg Value.int (show (0 : Int32) = (if mkL lt t0 t1 = mkL lk k0 k1 then (1 : Int32) else 0) from (if_neg (fun q => r0 ((mkL_iff h_lt3 h_lk).mp q).1)).symm)) ?_
            exact J109
        · skip
          show Go p e below _ (T_108.setTop (mkF m 163 #[.val (.int p0), .val (.int p1), .val (.int p2), .val (.int p3), .val (.int kk), .val (.int t0), .val (.int t1), .val (.int lt), .val (.int k0), .val (.int k1), .val (.int lk), .val (.ref r_107), .val (.ref r_108), .unset, .unset, .unset, .unset] [(.int (if mkL lt t0 t1 = mkL lk k0 k1 then (1 : Int32) else 0))]))
          refine Go.step (fun _ k => XS.istore X_108.here hx rfl (hb hby at_163) rfl (l' := #[.val (.int p0), .val (.int p1), .val (.int p2), .val (.int p3), .val (.int kk), .val (.int t0), .val (.int t1), .val (.int lt), .val (.int k0), .val (.int k1), .val (.int lk), .val (.ref r_107), .val (.ref r_108), .val (.int (if mkL lt t0 t1 = mkL lk k0 k1 then (1 : Int32) else 0)), .unset, .unset, .unset]) rfl k) ?_
          show Go p e below _ (T_108.setTop (mkF m 165 #[.val (.int p0), .val (.int p1), .val (.int p2), .val (.int p3), .val (.int kk), .val (.int t0), .val (.int t1), .val (.int lt), .val (.int k0), .val (.int k1), .val (.int lk), .val (.ref r_107), .val (.ref r_108), .val (.int (if mkL lt t0 t1 = mkL lk k0 k1 then (1 : Int32) else 0)), .unset, .unset, .unset] []))
          refine Go.step (fun _ k => XS.iload X_108.here hx rfl (hb hby at_165) rfl  k) ?_
          show Go p e below _ (T_108.setTop (mkF m 167 #[.val (.int p0), .val (.int p1), .val (.int p2), .val (.int p3), .val (.int kk), .val (.int t0), .val (.int t1), .val (.int lt), .val (.int k0), .val (.int k1), .val (.int lk), .val (.ref r_107), .val (.ref r_108), .val (.int (if mkL lt t0 t1 = mkL lk k0 k1 then (1 : Int32) else 0)), .unset, .unset, .unset] [(.int kk)]))
          refine Go.step (fun _ k => XS.iconst X_108.here hx rfl (hb hby at_167) k) ?_
          show Go p e below _ (T_108.setTop (mkF m 168 #[.val (.int p0), .val (.int p1), .val (.int p2), .val (.int p3), .val (.int kk), .val (.int t0), .val (.int t1), .val (.int lt), .val (.int k0), .val (.int k1), .val (.int lk), .val (.ref r_107), .val (.ref r_108), .val (.int (if mkL lt t0 t1 = mkL lk k0 k1 then (1 : Int32) else 0)), .unset, .unset, .unset] [(.int (1 : Int32)), (.int kk)]))
          refine own_join (t := T_108.setTop (mkF m 181 #[.val (.int p0), .val (.int p1), .val (.int p2), .val (.int p3), .val (.int kk), .val (.int t0), .val (.int t1), .val (.int lt), .val (.int k0), .val (.int k1), .val (.int lk), .val (.ref r_107), .val (.ref r_108), .val (.int (if mkL lt t0 t1 = mkL lk k0 k1 then (1 : Int32) else 0)), .unset, .unset, .unset] [(.int (if kk = (1 : Int32) ∧ mkL lt t0 t1 = mkL lk k0 k1 then (1 : Int32) else 0))])) (fun J110 => ?_) ?_
          · skip
            by_cases s0 : kk = (1 : Int32)
            · skip
              refine Go.step (fun _ k => XS.icmpNo X_108.here hx rfl (hb hby at_168) rfl (teq s0).2 k) ?_
              show Go p e below _ (T_108.setTop (mkF m 171 #[.val (.int p0), .val (.int p1), .val (.int p2), .val (.int p3), .val (.int kk), .val (.int t0), .val (.int t1), .val (.int lt), .val (.int k0), .val (.int k1), .val (.int lk), .val (.ref r_107), .val (.ref r_108), .val (.int (if mkL lt t0 t1 = mkL lk k0 k1 then (1 : Int32) else 0)), .unset, .unset, .unset] []))
              refine Go.step (fun _ k => XS.iload X_108.here hx rfl (hb hby at_171) rfl  k) ?_
              show Go p e below _ (T_108.setTop (mkF m 173 #[.val (.int p0), .val (.int p1), .val (.int p2), .val (.int p3), .val (.int kk), .val (.int t0), .val (.int t1), .val (.int lt), .val (.int k0), .val (.int k1), .val (.int lk), .val (.ref r_107), .val (.ref r_108), .val (.int (if mkL lt t0 t1 = mkL lk k0 k1 then (1 : Int32) else 0)), .unset, .unset, .unset] [(.int (if mkL lt t0 t1 = mkL lk k0 k1 then (1 : Int32) else 0))]))
              by_cases s1 : mkL lt t0 t1 = mkL lk k0 k1
              · skip
                refine Go.step (fun _ k => XS.ifNo X_108.here hx rfl (hb hby at_173) rfl ((if0 _ _).trans (feq (b01_ne s1)).1) k) ?_
                show Go p e below _ (T_108.setTop (mkF m 176 #[.val (.int p0), .val (.int p1), .val (.int p2), .val (.int p3), .val (.int kk), .val (.int t0), .val (.int t1), .val (.int lt), .val (.int k0), .val (.int k1), .val (.int lk), .val (.ref r_107), .val (.ref r_108), .val (.int (if mkL lt t0 t1 = mkL lk k0 k1 then (1 : Int32) else 0)), .unset, .unset, .unset] []))
                refine Go.step (fun _ k => XS.iconst X_108.here hx rfl (hb hby at_176) k) ?_
                show Go p e below _ (T_108.setTop (mkF m 177 #[.val (.int p0), .val (.int p1), .val (.int p2), .val (.int p3), .val (.int kk), .val (.int t0), .val (.int t1), .val (.int lt), .val (.int k0), .val (.int k1), .val (.int lk), .val (.ref r_107), .val (.ref r_108), .val (.int (if mkL lt t0 t1 = mkL lk k0 k1 then (1 : Int32) else 0)), .unset, .unset, .unset] [(.int (1 : Int32))]))
                refine Go.step (fun _ k => XS.goto X_108.here hx rfl (pc0 := 177) (pc' := 181) rfl (hb hby at_177) (by decide) (by decide) k) ?_
                show Go p e below _ (T_108.setTop (mkF m 181 #[.val (.int p0), .val (.int p1), .val (.int p2), .val (.int p3), .val (.int kk), .val (.int t0), .val (.int t1), .val (.int lt), .val (.int k0), .val (.int k1), .val (.int lk), .val (.ref r_107), .val (.ref r_108), .val (.int (if mkL lt t0 t1 = mkL lk k0 k1 then (1 : Int32) else 0)), .unset, .unset, .unset] [(.int (1 : Int32))]))
                refine own_top (congrArg Value.int (show (1 : Int32) = (if kk = (1 : Int32) ∧ mkL lt t0 t1 = mkL lk k0 k1 then (1 : Int32) else 0) from (if_pos ⟨s0, s1⟩).symm)) ?_
                exact J110
              · skip
                refine Go.step (fun _ k => XS.ifYes X_108.here hx rfl (pc0 := 173) (pc' := 180) rfl (hb hby at_173) rfl ((if0 _ _).trans (teq (b01_eq s1)).1) (by decide) (by decide) k) ?_
                show Go p e below _ (T_108.setTop (mkF m 180 #[.val (.int p0), .val (.int p1), .val (.int p2), .val (.int p3), .val (.int kk), .val (.int t0), .val (.int t1), .val (.int lt), .val (.int k0), .val (.int k1), .val (.int lk), .val (.ref r_107), .val (.ref r_108), .val (.int (if mkL lt t0 t1 = mkL lk k0 k1 then (1 : Int32) else 0)), .unset, .unset, .unset] []))
                refine Go.step (fun _ k => XS.iconst X_108.here hx rfl (hb hby at_180) k) ?_
                show Go p e below _ (T_108.setTop (mkF m 181 #[.val (.int p0), .val (.int p1), .val (.int p2), .val (.int p3), .val (.int kk), .val (.int t0), .val (.int t1), .val (.int lt), .val (.int k0), .val (.int k1), .val (.int lk), .val (.ref r_107), .val (.ref r_108), .val (.int (if mkL lt t0 t1 = mkL lk k0 k1 then (1 : Int32) else 0)), .unset, .unset, .unset] [(.int (0 : Int32))]))
                refine own_top (congrArg Value.int (show (0 : Int32) = (if kk = (1 : Int32) ∧ mkL lt t0 t1 = mkL lk k0 k1 then (1 : Int32) else 0) from (if_neg (fun q => s1 q.2)).symm)) ?_
                exact J110
            · skip
              refine Go.step (fun _ k => XS.icmpYes X_108.here hx rfl (pc0 := 168) (pc' := 180) rfl (hb hby at_168) rfl (feq s0).2 (by decide) (by decide) k) ?_
              show Go p e below _ (T_108.setTop (mkF m 180 #[.val (.int p0), .val (.int p1), .val (.int p2), .val (.int p3), .val (.int kk), .val (.int t0), .val (.int t1), .val (.int lt), .val (.int k0), .val (.int k1), .val (.int lk), .val (.ref r_107), .val (.ref r_108), .val (.int (if mkL lt t0 t1 = mkL lk k0 k1 then (1 : Int32) else 0)), .unset, .unset, .unset] []))
              refine Go.step (fun _ k => XS.iconst X_108.here hx rfl (hb hby at_180) k) ?_
              show Go p e below _ (T_108.setTop (mkF m 181 #[.val (.int p0), .val (.int p1), .val (.int p2), .val (.int p3), .val (.int kk), .val (.int t0), .val (.int t1), .val (.int lt), .val (.int k0), .val (.int k1), .val (.int lk), .val (.ref r_107), .val (.ref r_108), .val (.int (if mkL lt t0 t1 = mkL lk k0 k1 then (1 : Int32) else 0)), .unset, .unset, .unset] [(.int (0 : Int32))]))
              refine own_top (congrArg Value.int (show (0 : Int32) = (if kk = (1 : Int32) ∧ mkL lt t0 t1 = mkL lk k0 k1 then (1 : Int32) else 0) from (if_neg (fun q => s0 q.1)).symm)) ?_
              exact J110
          · skip
            show Go p e below _ (T_108.setTop (mkF m 181 #[.val (.int p0), .val (.int p1), .val (.int p2), .val (.int p3), .val (.int kk), .val (.int t0), .val (.int t1), .val (.int lt), .val (.int k0), .val (.int k1), .val (.int lk), .val (.ref r_107), .val (.ref r_108), .val (.int (if mkL lt t0 t1 = mkL lk k0 k1 then (1 : Int32) else 0)), .unset, .unset, .unset] [(.int (if kk = (1 : Int32) ∧ mkL lt t0 t1 = mkL lk k0 k1 then (1 : Int32) else 0))]))
            refine Go.step (fun _ k => XS.istore X_108.here hx rfl (hb hby at_181) rfl (l' := #[.val (.int p0), .val (.int p1), .val (.int p2), .val (.int p3), .val (.int kk), .val (.int t0), .val (.int t1), .val (.int lt), .val (.int k0), .val (.int k1), .val (.int lk), .val (.ref r_107), .val (.ref r_108), .val (.int (if mkL lt t0 t1 = mkL lk k0 k1 then (1 : Int32) else 0)), .val (.int (if kk = (1 : Int32) ∧ mkL lt t0 t1 = mkL lk k0 k1 then (1 : Int32) else 0)), .unset, .unset]) rfl k) ?_
            show Go p e below _ (T_108.setTop (mkF m 183 #[.val (.int p0), .val (.int p1), .val (.int p2), .val (.int p3), .val (.int kk), .val (.int t0), .val (.int t1), .val (.int lt), .val (.int k0), .val (.int k1), .val (.int lk), .val (.ref r_107), .val (.ref r_108), .val (.int (if mkL lt t0 t1 = mkL lk k0 k1 then (1 : Int32) else 0)), .val (.int (if kk = (1 : Int32) ∧ mkL lt t0 t1 = mkL lk k0 k1 then (1 : Int32) else 0)), .unset, .unset] []))
            obtain ⟨T_111, h_111, X_111, e_111, E_111, A_111, D_111, -, st_111⟩ := newO X_108 hx hZ_108 hown_108 (wd_38 hw) (wd_39 hw) (wd_40 hw) rfl (g := (mkF m 183 #[.val (.int p0), .val (.int p1), .val (.int p2), .val (.int p3), .val (.int kk), .val (.int t0), .val (.int t1), .val (.int lt), .val (.int k0), .val (.int k1), .val (.int lk), .val (.ref r_107), .val (.ref r_108), .val (.int (if mkL lt t0 t1 = mkL lk k0 k1 then (1 : Int32) else 0)), .val (.int (if kk = (1 : Int32) ∧ mkL lt t0 t1 = mkL lk k0 k1 then (1 : Int32) else 0)), .unset, .unset] [])) rfl (hb hby at_183) (by decide) (by decide)
            obtain ⟨b111, q_111⟩ : ∃ z, z = T_108.heap.size := ⟨_, rfl⟩
            rw [← q_111] at A_111 D_111 st_111
            refine Go.step st_111 ?_
            have C_111 := CHr.ext E_111 C_108.1
            have CR_111 := CHr.trans CR_108 C_111
            have le_111 : T_108.heap.size ≤ h_111.size := E_111.1
            have KP_111 := KP_108.ext E_111
            have O_111 := O_108.ext E_111
            have ge_111 : T_108.heap.size ≤ b111 := Nat.le_of_eq q_111.symm
            have sz_b111 : h0.size ≤ b111 := Nat.le_trans (Nat.le_trans le_107 le_108) ge_111
            have g_b111 : n0 ≤ b111 := Nat.le_trans Z0 sz_b111
            have F_111_53 : Fld Z h_111 b111 "com/example/stubwright/stubwright/SourcePosition" "file" "Ljava/lang/String;" .null := D_111 (Or.inr (wd_53 hw)) (ty := (.object "java/lang/String")) pf_2
            have F_111_55 : Fld Z h_111 b111 "com/example/stubwright/stubwright/SourcePosition" "line" "I" (.int (0 : Int32)) := D_111 (Or.inr (wd_55 hw)) (ty := .int) pf_3
            have F_111_57 : Fld Z h_111 b111 "com/example/stubwright/stubwright/SourcePosition" "column" "I" (.int (0 : Int32)) := D_111 (Or.inr (wd_57 hw)) (ty := .int) pf_3
            have Sf_b111 := Safe.ext E_111 C_108.1 (Safe.new ge_111)
            show Go p e below _ (T_111.setTop (mkF m 186 #[.val (.int p0), .val (.int p1), .val (.int p2), .val (.int p3), .val (.int kk), .val (.int t0), .val (.int t1), .val (.int lt), .val (.int k0), .val (.int k1), .val (.int lk), .val (.ref r_107), .val (.ref r_108), .val (.int (if mkL lt t0 t1 = mkL lk k0 k1 then (1 : Int32) else 0)), .val (.int (if kk = (1 : Int32) ∧ mkL lt t0 t1 = mkL lk k0 k1 then (1 : Int32) else 0)), .unset, .unset] [(.ref b111)]))
            refine Go.step (fun _ k => XS.dup X_111.here hx rfl (hb hby at_186) rfl rfl k) ?_
            show Go p e below _ (T_111.setTop (mkF m 187 #[.val (.int p0), .val (.int p1), .val (.int p2), .val (.int p3), .val (.int kk), .val (.int t0), .val (.int t1), .val (.int lt), .val (.int k0), .val (.int k1), .val (.int lk), .val (.ref r_107), .val (.ref r_108), .val (.int (if mkL lt t0 t1 = mkL lk k0 k1 then (1 : Int32) else 0)), .val (.int (if kk = (1 : Int32) ∧ mkL lt t0 t1 = mkL lk k0 k1 then (1 : Int32) else 0)), .unset, .unset] [(.ref b111), (.ref b111)]))
            obtain ⟨a_112, T_112, h_112, k1_112, t_112, kb_112, X_112, e_112, E_112, hS_112, hk_112, hZ_112, hown_112, Ex_112, Fc_112, Fv_112, Av_112, lta_112, ltb_112, C_112, Lt_112, -, st_112⟩ := ldcCH X_111 hx hZ_108 hown_108 (wd_41 hw) hwS e_111 hS_108 (Nat.le_trans (Nat.le_refl _) le_111) hEL (by decide) C_111.1 (vs := [(.int (102 : Int32))]) (z := (1 : Int32)) ⟨by decide, by decide⟩ (by decide) (by decide) (g := (mkF m 187 #[.val (.int p0), .val (.int p1), .val (.int p2), .val (.int p3), .val (.int kk), .val (.int t0), .val (.int t1), .val (.int lt), .val (.int k0), .val (.int k1), .val (.int lk), .val (.ref r_107), .val (.ref r_108), .val (.int (if mkL lt t0 t1 = mkL lk k0 k1 then (1 : Int32) else 0)), .val (.int (if kk = (1 : Int32) ∧ mkL lt t0 t1 = mkL lk k0 k1 then (1 : Int32) else 0)), .unset, .unset] [(.ref b111), (.ref b111)])) rfl (hb hby at_187) (n := 4) (by decide) (by decide) (by decide) (by decide)
            refine Go.step st_112 ?_
            have CR_112 := CHr.trans CR_111 C_112
            have le_112 : h_111.size ≤ h_112.size := E_112.1
            have KP_112 := KP_111.ext E_112
            have O_112 := O_111.ext E_112
            have Sx_112 : Str Z h_112.size h_112 a_112 ([(102 : Int32)] : List Int32) := ⟨t_112, kb_112, lta_112, ltb_112, Ex_112, Fv_112, Fc_112, Av_112, by decide, by decide⟩
            show Go p e below _ (T_112.setTop (mkF m 189 #[.val (.int p0), .val (.int p1), .val (.int p2), .val (.int p3), .val (.int kk), .val (.int t0), .val (.int t1), .val (.int lt), .val (.int k0), .val (.int k1), .val (.int lk), .val (.ref r_107), .val (.ref r_108), .val (.int (if mkL lt t0 t1 = mkL lk k0 k1 then (1 : Int32) else 0)), .val (.int (if kk = (1 : Int32) ∧ mkL lt t0 t1 = mkL lk k0 k1 then (1 : Int32) else 0)), .unset, .unset] [(.ref a_112), (.ref b111), (.ref b111)]))
            refine Go.step (fun _ k => XS.iconst X_112.here hx rfl (hb hby at_189) k) ?_
            show Go p e below _ (T_112.setTop (mkF m 190 #[.val (.int p0), .val (.int p1), .val (.int p2), .val (.int p3), .val (.int kk), .val (.int t0), .val (.int t1), .val (.int lt), .val (.int k0), .val (.int k1), .val (.int lk), .val (.ref r_107), .val (.ref r_108), .val (.int (if mkL lt t0 t1 = mkL lk k0 k1 then (1 : Int32) else 0)), .val (.int (if kk = (1 : Int32) ∧ mkL lt t0 t1 = mkL lk k0 k1 then (1 : Int32) else 0)), .unset, .unset] [(.int (1 : Int32)), (.ref a_112), (.ref b111), (.ref b111)]))
            refine Go.step (fun _ k => XS.iconst X_112.here hx rfl (hb hby at_190) k) ?_
            show Go p e below _ (T_112.setTop (mkF m 191 #[.val (.int p0), .val (.int p1), .val (.int p2), .val (.int p3), .val (.int kk), .val (.int t0), .val (.int t1), .val (.int lt), .val (.int k0), .val (.int k1), .val (.int lk), .val (.ref r_107), .val (.ref r_108), .val (.int (if mkL lt t0 t1 = mkL lk k0 k1 then (1 : Int32) else 0)), .val (.int (if kk = (1 : Int32) ∧ mkL lt t0 t1 = mkL lk k0 k1 then (1 : Int32) else 0)), .unset, .unset] [(.int (1 : Int32)), (.int (1 : Int32)), (.ref a_112), (.ref b111), (.ref b111)]))
            have f113 : Exa Z h_112 b111 "com/example/stubwright/stubwright/SourcePosition" := (A_111.ext E_112)
            have f114 : Fld Z h_112 b111 "com/example/stubwright/stubwright/SourcePosition" "file" "Ljava/lang/String;" .null := (F_111_53.ext E_112)
            have f115 : Fld Z h_112 b111 "com/example/stubwright/stubwright/SourcePosition" "line" "I" (.int (0 : Int32)) := (F_111_55.ext E_112)
            have f116 : Fld Z h_112 b111 "com/example/stubwright/stubwright/SourcePosition" "column" "I" (.int (0 : Int32)) := (F_111_57.ext E_112)
            obtain ⟨v_117, T_117, L_117, X_117, hQ_117, hS_117, hZ_117, hown_117, C_117, st_117⟩ := goCW X_112 hx hZ_112 (y := ({ cls := "com/example/stubwright/stubwright/SourcePosition", name := "<init>", desc := "(Ljava/lang/String;II)V" } : Jvm.MethodName)) hown_112 hS_112 hk_112 rfl (wd_42 hw) (wd_43 hw) (wd_44 hw) (by decide) (backOfSH (W := 1) (rm_initSP l Z a0 hw zc kd0 kd1 kd2 kd3 kd4 kd5 kd6 kd7 kd8 kd9 kd10 kd11 kd12 kd13 kd14 kd15 kd16 kd17 (b111) (a_112) (([(102 : Int32)] : List Int32)) ((1 : Int32)) ((1 : Int32)) h_112 n0 (Nat.le_trans Z0 KP_112.1) f113 g_b111 Sx_112 f114 f115 f116 hSt O_112) hZ_112 (wd_44 hw) (wd_40 hw) (by decide) (by decide) hEL C_112.1) e_112 (g := (mkF m 191 #[.val (.int p0), .val (.int p1), .val (.int p2), .val (.int p3), .val (.int kk), .val (.int t0), .val (.int t1), .val (.int lt), .val (.int k0), .val (.int k1), .val (.int lk), .val (.ref r_107), .val (.ref r_108), .val (.int (if mkL lt t0 t1 = mkL lk k0 k1 then (1 : Int32) else 0)), .val (.int (if kk = (1 : Int32) ∧ mkL lt t0 t1 = mkL lk k0 k1 then (1 : Int32) else 0)), .unset, .unset] [(.int (1 : Int32)), (.int (1 : Int32)), (.ref a_112), (.ref b111), (.ref b111)])) rfl (by rw [hml]; rfl) (a := b111) (argsL := [(.ref a_112), (.int (1 : Int32)), (.int (1 : Int32))]) (rest := [(.ref b111)]) rfl (lenOf pd_6 rfl) rfl (by show 2 * 0 + _ ≤ _; exact Nat.le_of_eq rfl) (hb hby at_191) (by decide) (by decide)
            obtain ⟨rfl, Nq_117, K_117⟩ := hQ_117
            have N_117 := Fr.app N_108 Nq_117
            have CR_117 := CHr.trans CR_112 C_117
            have le_117 : h_112.size ≤ T_117.heap.size := K_117.1
            have KP_117 := KP_112.trans K_117 (allS (Or.inr sz_b111) all0)
            have O_117 := O_112.keep K_117 (allS g_b111 all0)
            refine Go.step st_117 ?_
            show Go p e below _ (T_117.setTop (mkF m 194 #[.val (.int p0), .val (.int p1), .val (.int p2), .val (.int p3), .val (.int kk), .val (.int t0), .val (.int t1), .val (.int lt), .val (.int k0), .val (.int k1), .val (.int lk), .val (.ref r_107), .val (.ref r_108), .val (.int (if mkL lt t0 t1 = mkL lk k0 k1 then (1 : Int32) else 0)), .val (.int (if kk = (1 : Int32) ∧ mkL lt t0 t1 = mkL lk k0 k1 then (1 : Int32) else 0)), .unset, .unset] [(.ref b111)]))
            refine Go.step (fun _ k => XS.astore X_117.here hx rfl (hb hby at_194) rfl rfl (l' := #[.val (.int p0), .val (.int p1), .val (.int p2), .val (.int p3), .val (.int kk), .val (.int t0), .val (.int t1), .val (.int lt), .val (.int k0), .val (.int k1), .val (.int lk), .val (.ref r_107), .val (.ref r_108), .val (.int (if mkL lt t0 t1 = mkL lk k0 k1 then (1 : Int32) else 0)), .val (.int (if kk = (1 : Int32) ∧ mkL lt t0 t1 = mkL lk k0 k1 then (1 : Int32) else 0)), .val (.ref b111), .unset]) rfl k) ?_
            show Go p e below _ (T_117.setTop (mkF m 196 #[.val (.int p0), .val (.int p1), .val (.int p2), .val (.int p3), .val (.int kk), .val (.int t0), .val (.int t1), .val (.int lt), .val (.int k0), .val (.int k1), .val (.int lk), .val (.ref r_107), .val (.ref r_108), .val (.int (if mkL lt t0 t1 = mkL lk k0 k1 then (1 : Int32) else 0)), .val (.int (if kk = (1 : Int32) ∧ mkL lt t0 t1 = mkL lk k0 k1 then (1 : Int32) else 0)), .val (.ref b111), .unset] []))
            obtain ⟨T_118, h_118, X_118, e_118, E_118, A_118, D_118, -, st_118⟩ := newO X_117 hx hZ_117 hown_117 (wd_58 hw) (wd_59 hw) (wd_60 hw) rfl (g := (mkF m 196 #[.val (.int p0), .val (.int p1), .val (.int p2), .val (.int p3), .val (.int kk), .val (.int t0), .val (.int t1), .val (.int lt), .val (.int k0), .val (.int k1), .val (.int lk), .val (.ref r_107), .val (.ref r_108), .val (.int (if mkL lt t0 t1 = mkL lk k0 k1 then (1 : Int32) else 0)), .val (.int (if kk = (1 : Int32) ∧ mkL lt t0 t1 = mkL lk k0 k1 then (1 : Int32) else 0)), .val (.ref b111), .unset] [])) rfl (hb hby at_196) (by decide) (by decide)
            obtain ⟨b118, q_118⟩ : ∃ z, z = T_117.heap.size := ⟨_, rfl⟩
            rw [← q_118] at A_118 D_118 st_118
            refine Go.step st_118 ?_
            have C_118 := CHr.ext E_118 C_117.1
            have CR_118 := CHr.trans CR_117 C_118
            have le_118 : T_117.heap.size ≤ h_118.size := E_118.1
            have KP_118 := KP_117.ext E_118
            have O_118 := O_117.ext E_118
            have ge_118 : T_117.heap.size ≤ b118 := Nat.le_of_eq q_118.symm
            have sz_b118 : h0.size ≤ b118 := Nat.le_trans (Nat.le_trans le_107 (Nat.le_trans le_108 (Nat.le_trans le_111 (Nat.le_trans le_112 le_117)))) ge_118
            have g_b118 : n0 ≤ b118 := Nat.le_trans Z0 sz_b118
            have F_118_75 : Fld Z h_118 b118 "com/example/stubwright/stubwright/idl/Token" "kind" "Lcom/example/stubwright/stubwright/idl/Token$Kind;" .null := D_118 (Or.inr (wd_75 hw)) (ty := (.object "com/example/stubwright/stubwright/idl/Token$Kind")) pf_4
            have F_118_77 : Fld Z h_118 b118 "com/example/stubwright/stubwright/idl/Token" "text" "Ljava/lang/String;" .null := D_118 (Or.inr (wd_77 hw)) (ty := (.object "java/lang/String")) pf_2
            have F_118_79 : Fld Z h_118 b118 "com/example/stubwright/stubwright/idl/Token" "position" "Lcom/example/stubwright/stubwright/SourcePosition;" .null := D_118 (Or.inr (wd_79 hw)) (ty := (.object "com/example/stubwright/stubwright/SourcePosition")) pf_5
            have F_118_81 : Fld Z h_118 b118 "com/example/stubwright/stubwright/idl/Token" "escaped" "Z" (.int (0 : Int32)) := D_118 (Or.inr (wd_81 hw)) (ty := .boolean) pf_6
            have Sf_b118 := Safe.ext E_118 C_117.1 (Safe.new ge_118)
            show Go p e below _ (T_118.setTop (mkF m 199 #[.val (.int p0), .val (.int p1), .val (.int p2), .val (.int p3), .val (.int kk), .val (.int t0), .val (.int t1), .val (.int lt), .val (.int k0), .val (.int k1), .val (.int lk), .val (.ref r_107), .val (.ref r_108), .val (.int (if mkL lt t0 t1 = mkL lk k0 k1 then (1 : Int32) else 0)), .val (.int (if kk = (1 : Int32) ∧ mkL lt t0 t1 = mkL lk k0 k1 then (1 : Int32) else 0)), .val (.ref b111), .unset] [(.ref b118)]))
            refine Go.step (fun _ k => XS.dup X_118.here hx rfl (hb hby at_199) rfl rfl k) ?_
            show Go p e below _ (T_118.setTop (mkF m 200 #[.val (.int p0), .val (.int p1), .val (.int p2), .val (.int p3), .val (.int kk), .val (.int t0), .val (.int t1), .val (.int lt), .val (.int k0), .val (.int k1), .val (.int lk), .val (.ref r_107), .val (.ref r_108), .val (.int (if mkL lt t0 t1 = mkL lk k0 k1 then (1 : Int32) else 0)), .val (.int (if kk = (1 : Int32) ∧ mkL lt t0 t1 = mkL lk k0 k1 then (1 : Int32) else 0)), .val (.ref b111), .unset] [(.ref b118), (.ref b118)]))
            refine Go.step (fun _ k => XS.iload X_118.here hx rfl (hb hby at_200) rfl  k) ?_
            show Go p e below _ (T_118.setTop (mkF m 202 #[.val (.int p0), .val (.int p1), .val (.int p2), .val (.int p3), .val (.int kk), .val (.int t0), .val (.int t1), .val (.int lt), .val (.int k0), .val (.int k1), .val (.int lk), .val (.ref r_107), .val (.ref r_108), .val (.int (if mkL lt t0 t1 = mkL lk k0 k1 then (1 : Int32) else 0)), .val (.int (if kk = (1 : Int32) ∧ mkL lt t0 t1 = mkL lk k0 k1 then (1 : Int32) else 0)), .val (.ref b111), .unset] [(.int kk), (.ref b118), (.ref b118)]))
            obtain ⟨v_119, T_119, L_119, X_119, hQ_119, st_119⟩ := goS X_118 hx hZ_117 (y := ({ cls := "com/example/stubwright/stubwright/idl/TokenIsKeywordPinLaw", name := "kindOf", desc := "(I)Lcom/example/stubwright/stubwright/idl/Token$Kind;" } : Jvm.MethodName)) hown_117 (wd_61 hw) (wd_62 hw) (wd_3 hw) (wd_63 hw) (by decide) (backOf (W := 2) (rm_kindOf l Z a0 hw zc kd0 kd1 kd2 kd3 kd4 kd5 kd6 kd7 kd8 kd9 kd10 kd11 kd12 kd13 kd14 kd15 kd16 kd17 (kk) h_118 n0 (Nat.le_trans Z0 KP_118.1) hSt O_118) hZ_117 (wd_63 hw) (wd_3 hw) (by decide) (by decide)) e_118 (g := (mkF m 202 #[.val (.int p0), .val (.int p1), .val (.int p2), .val (.int p3), .val (.int kk), .val (.int t0), .val (.int t1), .val (.int lt), .val (.int k0), .val (.int k1), .val (.int lk), .val (.ref r_107), .val (.ref r_108), .val (.int (if mkL lt t0 t1 = mkL lk k0 k1 then (1 : Int32) else 0)), .val (.int (if kk = (1 : Int32) ∧ mkL lt t0 t1 = mkL lk k0 k1 then (1 : Int32) else 0)), .val (.ref b111), .unset] [(.int kk), (.ref b118), (.ref b118)])) rfl (by rw [hml]; rfl) (argsL := [(.int kk)]) (rest := [(.ref b118), (.ref b118)]) rfl (lenOf pd_7 rfl) rfl (by show 2 * 0 + _ ≤ _; exact Nat.le_of_eq rfl) (hb hby at_202) (by decide) (by decide)
            obtain ⟨r_119, rfl, Nq_119, e_119, u0_119⟩ := hQ_119
            have N_119 := Fr.app N_117 Nq_119
            have hk_119 := u0_119
            refine Go.step st_119 ?_
            show Go p e below _ (T_119.setTop (mkF m 205 #[.val (.int p0), .val (.int p1), .val (.int p2), .val (.int p3), .val (.int kk), .val (.int t0), .val (.int t1), .val (.int lt), .val (.int k0), .val (.int k1), .val (.int lk), .val (.ref r_107), .val (.ref r_108), .val (.int (if mkL lt t0 t1 = mkL lk k0 k1 then (1 : Int32) else 0)), .val (.int (if kk = (1 : Int32) ∧ mkL lt t0 t1 = mkL lk k0 k1 then (1 : Int32) else 0)), .val (.ref b111), .unset] [(.ref r_119), (.ref b118), (.ref b118)]))
            have hkd := hk_119
            show Go p e below _ (T_119.setTop (mkF m 205 #[.val (.int p0), .val (.int p1), .val (.int p2), .val (.int p3), .val (.int kk), .val (.int t0), .val (.int t1), .val (.int lt), .val (.int k0), .val (.int k1), .val (.int lk), .val (.ref r_107), .val (.ref r_108), .val (.int (if mkL lt t0 t1 = mkL lk k0 k1 then (1 : Int32) else 0)), .val (.int (if kk = (1 : Int32) ∧ mkL lt t0 t1 = mkL lk k0 k1 then (1 : Int32) else 0)), .val (.ref b111), .unset] [(.ref r_119), (.ref b118), (.ref b118)]))
            refine Go.step (fun _ k => XS.aload X_119.here hx rfl (hb hby at_205) rfl rfl k) ?_
            show Go p e below _ (T_119.setTop (mkF m 207 #[.val (.int p0), .val (.int p1), .val (.int p2), .val (.int p3), .val (.int kk), .val (.int t0), .val (.int t1), .val (.int lt), .val (.int k0), .val (.int k1), .val (.int lk), .val (.ref r_107), .val (.ref r_108), .val (.int (if mkL lt t0 t1 = mkL lk k0 k1 then (1 : Int32) else 0)), .val (.int (if kk = (1 : Int32) ∧ mkL lt t0 t1 = mkL lk k0 k1 then (1 : Int32) else 0)), .val (.ref b111), .unset] [(.ref r_107), (.ref r_119), (.ref b118), (.ref b118)]))
            refine Go.step (fun _ k => XS.aload X_119.here hx rfl (hb hby at_207) rfl rfl k) ?_
            show Go p e below _ (T_119.setTop (mkF m 209 #[.val (.int p0), .val (.int p1), .val (.int p2), .val (.int p3), .val (.int kk), .val (.int t0), .val (.int t1), .val (.int lt), .val (.int k0), .val (.int k1), .val (.int lk), .val (.ref r_107), .val (.ref r_108), .val (.int (if mkL lt t0 t1 = mkL lk k0 k1 then (1 : Int32) else 0)), .val (.int (if kk = (1 : Int32) ∧ mkL lt t0 t1 = mkL lk k0 k1 then (1 : Int32) else 0)), .val (.ref b111), .unset] [(.ref b111), (.ref r_107), (.ref r_119), (.ref b118), (.ref b118)]))
            obtain ⟨v_120, T_120, L_120, X_120, hQ_120, st_120⟩ := goC X_119 hx hZ_117 (y := ({ cls := "com/example/stubwright/stubwright/idl/Token", name := "<init>", desc := "(Lcom/example/stubwright/stubwright/idl/Token$Kind;Ljava/lang/String;Lcom/example/stubwright/stubwright/SourcePosition;)V" } : Jvm.MethodName)) hown_117 rfl (wd_67 hw) (wd_68 hw) (wd_69 hw) (by decide) (backOf (W := 1) (rm_initT3 l Z a0 hw zc kd0 kd1 kd2 kd3 kd4 kd5 kd6 kd7 kd8 kd9 kd10 kd11 kd12 kd13 kd14 kd15 kd16 kd17 (b118) (r_119) (r_107) (b111) h_118 n0 (Nat.le_trans Z0 KP_118.1) A_118 g_b118 F_118_75 F_118_77 F_118_79 F_118_81 hSt O_118) hZ_117 (wd_69 hw) (wd_60 hw) (by decide) (by decide)) e_119 (g := (mkF m 209 #[.val (.int p0), .val (.int p1), .val (.int p2), .val (.int p3), .val (.int kk), .val (.int t0), .val (.int t1), .val (.int lt), .val (.int k0), .val (.int k1), .val (.int lk), .val (.ref r_107), .val (.ref r_108), .val (.int (if mkL lt t0 t1 = mkL lk k0 k1 then (1 : Int32) else 0)), .val (.int (if kk = (1 : Int32) ∧ mkL lt t0 t1 = mkL lk k0 k1 then (1 : Int32) else 0)), .val (.ref b111), .unset] [(.ref b111), (.ref r_107), (.ref r_119), (.ref b118), (.ref b118)])) rfl (by rw [hml]; rfl) (a := b118) (argsL := [(.ref r_119), (.ref r_107), (.ref b111)]) (rest := [(.ref b118)]) rfl (lenOf pd_8 rfl) rfl (by show 2 * 0 + _ ≤ _; exact Nat.le_of_eq rfl) (hb hby at_209) (by decide) (by decide)
            obtain ⟨rfl, Nq_120, K_120, u0_120, u1_120, u2_120, u3_120⟩ := hQ_120
            have N_120 := Fr.app N_119 Nq_120
            have C_120 := CHr.keep K_120 (sfS (Safe.exa hZ_117.alike A_118 (by decide) (by decide)) sf0) C_118.1
            have CR_120 := CHr.trans CR_118 C_120
            have le_120 : h_118.size ≤ T_120.heap.size := K_120.1
            have KP_120 := KP_118.trans K_120 (allS (Or.inr sz_b118) all0)
            have O_120 := O_118.keep K_120 (allS g_b118 all0)
            refine Go.step st_120 ?_
            show Go p e below _ (T_120.setTop (mkF m 212 #[.val (.int p0), .val (.int p1), .val (.int p2), .val (.int p3), .val (.int kk), .val (.int t0), .val (.int t1), .val (.int lt), .val (.int k0), .val (.int k1), .val (.int lk), .val (.ref r_107), .val (.ref r_108), .val (.int (if mkL lt t0 t1 = mkL lk k0 k1 then (1 : Int32) else 0)), .val (.int (if kk = (1 : Int32) ∧ mkL lt t0 t1 = mkL lk k0 k1 then (1 : Int32) else 0)), .val (.ref b111), .unset] [(.ref b118)]))
            refine Go.step (fun _ k => XS.astore X_120.here hx rfl (hb hby at_212) rfl rfl (l' := #[.val (.int p0), .val (.int p1), .val (.int p2), .val (.int p3), .val (.int kk), .val (.int t0), .val (.int t1), .val (.int lt), .val (.int k0), .val (.int k1), .val (.int lk), .val (.ref r_107), .val (.ref r_108), .val (.int (if mkL lt t0 t1 = mkL lk k0 k1 then (1 : Int32) else 0)), .val (.int (if kk = (1 : Int32) ∧ mkL lt t0 t1 = mkL lk k0 k1 then (1 : Int32) else 0)), .val (.ref b111), .val (.ref b118)]) rfl k) ?_
            show Go p e below _ (T_120.setTop (mkF m 214 #[.val (.int p0), .val (.int p1), .val (.int p2), .val (.int p3), .val (.int kk), .val (.int t0), .val (.int t1), .val (.int lt), .val (.int k0), .val (.int k1), .val (.int lk), .val (.ref r_107), .val (.ref r_108), .val (.int (if mkL lt t0 t1 = mkL lk k0 k1 then (1 : Int32) else 0)), .val (.int (if kk = (1 : Int32) ∧ mkL lt t0 t1 = mkL lk k0 k1 then (1 : Int32) else 0)), .val (.ref b111), .val (.ref b118)] []))
            refine Go.step (fun _ k => XS.aload X_120.here hx rfl (hb hby at_214) rfl rfl k) ?_
            show Go p e below _ (T_120.setTop (mkF m 216 #[.val (.int p0), .val (.int p1), .val (.int p2), .val (.int p3), .val (.int kk), .val (.int t0), .val (.int t1), .val (.int lt), .val (.int k0), .val (.int k1), .val (.int lk), .val (.ref r_107), .val (.ref r_108), .val (.int (if mkL lt t0 t1 = mkL lk k0 k1 then (1 : Int32) else 0)), .val (.int (if kk = (1 : Int32) ∧ mkL lt t0 t1 = mkL lk k0 k1 then (1 : Int32) else 0)), .val (.ref b111), .val (.ref b118)] [(.ref b118)]))
            refine Go.step (fun _ k => XS.aload X_120.here hx rfl (hb hby at_216) rfl rfl k) ?_
            show Go p e below _ (T_120.setTop (mkF m 218 #[.val (.int p0), .val (.int p1), .val (.int p2), .val (.int p3), .val (.int kk), .val (.int t0), .val (.int t1), .val (.int lt), .val (.int k0), .val (.int k1), .val (.int lk), .val (.ref r_107), .val (.ref r_108), .val (.int (if mkL lt t0 t1 = mkL lk k0 k1 then (1 : Int32) else 0)), .val (.int (if kk = (1 : Int32) ∧ mkL lt t0 t1 = mkL lk k0 k1 then (1 : Int32) else 0)), .val (.ref b111), .val (.ref b118)] [(.ref r_108), (.ref b118)]))
            have f121 : Str Z T_107.heap.size T_120.heap r_107 (mkL lt t0 t1) := ((((((u1_107.keep K_108 all0).ext E_111).ext E_112).keep K_117 (allS (Nat.le_trans le_108 ge_111) all0)).ext E_118).keep K_120 (allS (Nat.le_trans (Nat.le_trans le_108 (Nat.le_trans le_111 (Nat.le_trans le_112 le_117))) ge_118) all0))
            have f122 : Str Z T_108.heap.size T_120.heap r_108 (mkL lk k0 k1) := (((((u1_108.ext E_111).ext E_112).keep K_117 (allS (Nat.le_trans (Nat.le_refl _) ge_111) all0)).ext E_118).keep K_120 (allS (Nat.le_trans (Nat.le_trans le_111 (Nat.le_trans le_112 le_117)) ge_118) all0))
            have f124 : Exa Z T_120.heap b118 "com/example/stubwright/stubwright/idl/Token" := (A_118.keep K_120)
            obtain ⟨v_123, T_123, L_123, X_123, hQ_123, st_123⟩ := goV X_120 hx hZ_117 (y := ({ cls := "com/example/stubwright/stubwright/idl/Token", name := "isKeyword", desc := "(Ljava/lang/String;)Z" } : Jvm.MethodName)) (z := ({ cls := "com/example/stubwright/stubwright/idl/Token", name := "isKeyword", desc := "(Ljava/lang/String;)Z" } : Jvm.MethodName)) hown_117 (wd_82 hw) (wd_83 hw) (notFace_of_selects (args := #[]) (mvT hZ_117 (wd_85 hw))) (wd_85 hw) (wd_84 hw) (by decide) (backOf (W := 0) (rm_isKw l Z a0 hw zc kd0 kd1 kd2 kd3 kd4 kd5 kd6 kd7 kd8 kd9 kd10 kd11 kd12 kd13 kd14 kd15 kd16 kd17 (b118) (r_119) (r_107) (r_108) ((mkL lt t0 t1)) ((mkL lk k0 k1)) T_120.heap n0 (Nat.le_trans Z0 KP_120.1) u0_120 u1_120 (f121.mono (Nat.le_trans le_108 (Nat.le_trans le_111 (Nat.le_trans le_112 (Nat.le_trans le_117 (Nat.le_trans le_118 le_120)))))) (f122.mono (Nat.le_trans le_111 (Nat.le_trans le_112 (Nat.le_trans le_117 (Nat.le_trans le_118 le_120))))) hSt O_120) hZ_117 (wd_86 hw) (wd_60 hw) (by decide) (by decide)) rfl f124 (g := (mkF m 218 #[.val (.int p0), .val (.int p1), .val (.int p2), .val (.int p3), .val (.int kk), .val (.int t0), .val (.int t1), .val (.int lt), .val (.int k0), .val (.int k1), .val (.int lk), .val (.ref r_107), .val (.ref r_108), .val (.int (if mkL lt t0 t1 = mkL lk k0 k1 then (1 : Int32) else 0)), .val (.int (if kk = (1 : Int32) ∧ mkL lt t0 t1 = mkL lk k0 k1 then (1 : Int32) else 0)), .val (.ref b111), .val (.ref b118)] [(.ref r_108), (.ref b118)])) rfl (by rw [hml]; rfl) (argsL := [(.ref r_108)]) (rest := []) rfl (lenOf pd_9 rfl) rfl (by show 2 * 0 + _ ≤ _; exact Nat.le_of_eq rfl) (hb hby at_218) (by decide) (by decide)
            obtain ⟨rfl, Nq_123, e_123⟩ := hQ_123
            have N_123 := Fr.app N_120 Nq_123
            refine Go.step st_123 ?_
            show Go p e below _ (T_123.setTop (mkF m 221 #[.val (.int p0), .val (.int p1), .val (.int p2), .val (.int p3), .val (.int kk), .val (.int t0), .val (.int t1), .val (.int lt), .val (.int k0), .val (.int k1), .val (.int lk), .val (.ref r_107), .val (.ref r_108), .val (.int (if mkL lt t0 t1 = mkL lk k0 k1 then (1 : Int32) else 0)), .val (.int (if kk = (1 : Int32) ∧ mkL lt t0 t1 = mkL lk k0 k1 then (1 : Int32) else 0)), .val (.ref b111), .val (.ref b118)] [(.int (if r_119 = kd1 ∧ (mkL lt t0 t1) = (mkL lk k0 k1) then (1 : Int32) else 0))]))
            refine Go.step (fun _ k => XS.iload X_123.here hx rfl (hb hby at_221) rfl  k) ?_
            show Go p e below _ (T_123.setTop (mkF m 223 #[.val (.int p0), .val (.int p1), .val (.int p2), .val (.int p3), .val (.int kk), .val (.int t0), .val (.int t1), .val (.int lt), .val (.int k0), .val (.int k1), .val (.int lk), .val (.ref r_107), .val (.ref r_108), .val (.int (if mkL lt t0 t1 = mkL lk k0 k1 then (1 : Int32) else 0)), .val (.int (if kk = (1 : Int32) ∧ mkL lt t0 t1 = mkL lk k0 k1 then (1 : Int32) else 0)), .val (.ref b111), .val (.ref b118)] [(.int (if kk = (1 : Int32) ∧ mkL lt t0 t1 = mkL lk k0 k1 then (1 : Int32) else 0)), (.int (if r_119 = kd1 ∧ (mkL lt t0 t1) = (mkL lk k0 k1) then (1 : Int32) else 0))]))
            refine Go.step (fun _ k => XS.icmpNo X_123.here hx rfl (hb hby at_223) rfl (teq (b01_iff (and_congr_left' (kd_iff hkd)) : (if r_119 = kd1 ∧ (mkL lt t0 t1) = (mkL lk k0 k1) then (1 : Int32) else 0) = (if kk = (1 : Int32) ∧ mkL lt t0 t1 = mkL lk k0 k1 then (1 : Int32) else 0))).2 k) ?_
            show Go p e below _ (T_123.setTop (mkF m 226 #[.val (.int p0), .val (.int p1), .val (.int p2), .val (.int p3), .val (.int kk), .val (.int t0), .val (.int t1), .val (.int lt), .val (.int k0), .val (.int k1), .val (.int lk), .val (.ref r_107), .val (.ref r_108), .val (.int (if mkL lt t0 t1 = mkL lk k0 k1 then (1 : Int32) else 0)), .val (.int (if kk = (1 : Int32) ∧ mkL lt t0 t1 = mkL lk k0 k1 then (1 : Int32) else 0)), .val (.ref b111), .val (.ref b118)] []))
            refine Go.step (fun _ k => XS.iconst X_123.here hx rfl (hb hby at_226) k) ?_
            show Go p e below _ (T_123.setTop (mkF m 227 #[.val (.int p0), .val (.int p1), .val (.int p2), .val (.int p3), .val (.int kk), .val (.int t0), .val (.int t1), .val (.int lt), .val (.int k0), .val (.int k1), .val (.int lk), .val (.ref r_107), .val (.ref r_108), .val (.int (if mkL lt t0 t1 = mkL lk k0 k1 then (1 : Int32) else 0)), .val (.int (if kk = (1 : Int32) ∧ mkL lt t0 t1 = mkL lk k0 k1 then (1 : Int32) else 0)), .val (.ref b111), .val (.ref b118)] [(.int (1 : Int32))]))
            refine Go.step (fun _ k => XS.goto X_123.here hx rfl (pc0 := 227) (pc' := 231) rfl (hb hby at_227) (by decide) (by decide) k) ?_
            show Go p e below _ (T_123.setTop (mkF m 231 #[.val (.int p0), .val (.int p1), .val (.int p2), .val (.int p3), .val (.int kk), .val (.int t0), .val (.int t1), .val (.int lt), .val (.int k0), .val (.int k1), .val (.int lk), .val (.ref r_107), .val (.ref r_108), .val (.int (if mkL lt t0 t1 = mkL lk k0 k1 then (1 : Int32) else 0)), .val (.int (if kk = (1 : Int32) ∧ mkL lt t0 t1 = mkL lk k0 k1 then (1 : Int32) else 0)), .val (.ref b111), .val (.ref b118)] [(.int (1 : Int32))]))
            exact Go.retVW X_123 e_123 hS_117 (Nat.le_trans (Nat.le_refl _) (Nat.le_trans le_118 le_120)) hZ_117 hEL hh0 CR_120 hx hlk hret rfl (Or.inl ⟨rfl, Or.inr (Or.inl rfl), _, rfl⟩) (hb hby at_231) (by decide) (by decide) (by rw [e_123]; exact ⟨rfl, N_123⟩)
--@E
set_option maxRecDepth 65536 in
set_option maxHeartbeats 40000000 in
theorem comes_1 {Post : Tables → Env → Array Value → State → Outcome → State → Prop} (hpost : ∀ tb e args s v u, (limb_1_1.after args s (.returned v) u = true ∧ limb_1_2.after args s (.returned v) u = true ∧ True) → ReturnedEndW s (.returned v) u (Jvm.fieldLocs frame_1_writes args s ++ Jvm.arrayLocs frame_1_arrays args s ++ Jvm.staticLocs frame_1_statics s) 32 3200 → Post tb e args s (.returned v) u) :
    ArmFor flags0 classFile x code maxLocals ret World_1 tables_1 room_1 Calls_1 rest_1 Pre_1 Post := by
  intro l hfl _ _ p e ha hc hk s m args below hf hA hF happ hP
  obtain ⟨hcalls, hrest, hpre⟩ := hP
  obtain ⟨-, -, -, hnamed, -, -, -, hat⟩ := (Spec.applies_iff hf).mp happ
  obtain ⟨hg, hn⟩ := and_e (Cond.before_iff.mp (show (Jvm.Cond.and given_1 narrow_1).before args s = true from hpre))
  obtain ⟨g_c, g_0⟩ := and_e hg
  obtain ⟨ga_0, g_1⟩ := and_e g_0
  obtain ⟨ga_1, g_2⟩ := and_e g_1
  obtain ⟨ga_2, g_3⟩ := and_e g_2
  have ga_3 := g_3
  obtain ⟨w0, w1, w2, w3, rfl⟩ : ∃ w0 w1 w2 w3 : Value, args = #[w0, w1, w2, w3] := by
    have hs : args.size = 4 := by simpa [Cond.value, given_1] using g_c
    obtain ⟨L⟩ := args
    match L, hs with
    | [w0, w1, w2, w3], _ => exact ⟨w0, w1, w2, w3, rfl⟩
  have hw := fun d (hd : d ∈ tables_1) => atoms_spec (ws := Jvm.Cond.code x code maxLocals ret :: tables_1) hat d (List.mem_cons_of_mem _ hd)
  obtain ⟨hsets, hown0⟩ := atoms_of _ (rest_1_c_eq ▸ (show rest_1_c.before _ s = true from hrest))
  obtain ⟨i0, ei0⟩ := is_v ga_0
  obtain rfl : w0 = (.int i0) := Option.some.inj ei0
  obtain ⟨i1, ei1⟩ := is_v ga_1
  obtain rfl : w1 = (.int i1) := Option.some.inj ei1
  obtain ⟨i2, ei2⟩ := is_v ga_2
  obtain rfl : w2 = (.int i2) := Option.some.inj ei2
  obtain ⟨i3, ei3⟩ := is_v ga_3
  obtain rfl : w3 = (.int i3) := Option.some.inj ei3
  have hs := fun (k : Nat) (d : Jvm.Cond) (h : jdkStatics_1[k]? = some d) => Cond.before_iff.mp (hsets d (List.mem_of_getElem? h))
  obtain ⟨zc, ezc⟩ := is_v (hs 1 _ rfl)
  have S_cs : Sta s s.heap "java/lang/String" "COMPACT_STRINGS" "Z" (.int zc) := Sta.start ezc (Or.inl (hsets _ (List.mem_of_getElem? (i := 0) rfl)))
  have n_cs : ¬ (zc = (0 : Int32)) := gotF (Cond.eq_ints ezc (Term.int_eval (0))) (not_v (hs 2 _ rfl))
  obtain ⟨na_0, nb_0⟩ := and_e hn
  obtain ⟨na_1, nb_1⟩ := and_e nb_0
  obtain ⟨na_2, nb_2⟩ := and_e nb_1
  obtain ⟨na_3, nb_3⟩ := and_e nb_2
  obtain ⟨na_4, nb_4⟩ := and_e nb_3
  obtain ⟨na_5, nb_5⟩ := and_e nb_4
  obtain ⟨na_6, nb_6⟩ := and_e nb_5
  obtain ⟨na_7, nb_7⟩ := and_e nb_6
  obtain ⟨na_8, nb_8⟩ := and_e nb_7
  obtain ⟨na_9, nb_9⟩ := and_e nb_8
  obtain ⟨na_10, nb_10⟩ := and_e nb_9
  obtain ⟨na_11, nb_11⟩ := and_e nb_10
  obtain ⟨na_12, nb_12⟩ := and_e nb_11
  obtain ⟨na_13, nb_13⟩ := and_e nb_12
  obtain ⟨na_14, nb_14⟩ := and_e nb_13
  obtain ⟨na_15, nb_15⟩ := and_e nb_14
  obtain ⟨na_16, nb_16⟩ := and_e nb_15
  obtain ⟨na_17, nb_17⟩ := and_e nb_16
  obtain ⟨na_18, nb_18⟩ := and_e nb_17
  obtain ⟨na_19, nb_19⟩ := and_e nb_18
  obtain ⟨na_20, nb_20⟩ := and_e nb_19
  obtain ⟨na_21, nb_21⟩ := and_e nb_20
  obtain ⟨na_22, nb_22⟩ := and_e nb_21
  obtain ⟨na_23, nb_23⟩ := and_e nb_22
  obtain ⟨na_24, nb_24⟩ := and_e nb_23
  obtain ⟨na_25, nb_25⟩ := and_e nb_24
  obtain ⟨na_26, nb_26⟩ := and_e nb_25
  obtain ⟨na_27, nb_27⟩ := and_e nb_26
  obtain ⟨na_28, nb_28⟩ := and_e nb_27
  obtain ⟨na_29, nb_29⟩ := and_e nb_28
  obtain ⟨na_30, nb_30⟩ := and_e nb_29
  obtain ⟨na_31, nb_31⟩ := and_e nb_30
  obtain ⟨na_32, nb_32⟩ := and_e nb_31
  obtain ⟨na_33, nb_33⟩ := and_e nb_32
  obtain ⟨na_34, nb_34⟩ := and_e nb_33
  have na_35 := nb_34
  obtain ⟨kd0, S_kd0, E_kd0, v_kd0⟩ := sta_obj (Or.inr ⟨(wd_65 hw), (wd_66 hw)⟩) na_0
  have O_kd0 := fld_i v_kd0 na_2
  obtain ⟨kd1, S_kd1, E_kd1, v_kd1⟩ := sta_obj (Or.inr ⟨(wd_65 hw), (wd_88 hw)⟩) na_1
  have O_kd1 := fld_i v_kd1 na_3
  obtain ⟨kd2, S_kd2, E_kd2, v_kd2⟩ := sta_obj (Or.inr ⟨(wd_65 hw), (wd_117 hw)⟩) na_20
  have O_kd2 := fld_i v_kd2 na_21
  obtain ⟨kd3, S_kd3, E_kd3, v_kd3⟩ := sta_obj (Or.inr ⟨(wd_65 hw), (wd_107 hw)⟩) na_10
  have O_kd3 := fld_i v_kd3 na_11
  obtain ⟨kd4, S_kd4, E_kd4, v_kd4⟩ := sta_obj (Or.inr ⟨(wd_65 hw), (wd_121 hw)⟩) na_24
  have O_kd4 := fld_i v_kd4 na_25
  obtain ⟨kd5, S_kd5, E_kd5, v_kd5⟩ := sta_obj (Or.inr ⟨(wd_65 hw), (wd_125 hw)⟩) na_28
  have O_kd5 := fld_i v_kd5 na_29
  obtain ⟨kd6, S_kd6, E_kd6, v_kd6⟩ := sta_obj (Or.inr ⟨(wd_65 hw), (wd_129 hw)⟩) na_32
  have O_kd6 := fld_i v_kd6 na_33
  obtain ⟨kd7, S_kd7, E_kd7, v_kd7⟩ := sta_obj (Or.inr ⟨(wd_65 hw), (wd_92 hw)⟩) na_6
  have O_kd7 := fld_i v_kd7 na_7
  obtain ⟨kd8, S_kd8, E_kd8, v_kd8⟩ := sta_obj (Or.inr ⟨(wd_65 hw), (wd_115 hw)⟩) na_18
  have O_kd8 := fld_i v_kd8 na_19
  obtain ⟨kd9, S_kd9, E_kd9, v_kd9⟩ := sta_obj (Or.inr ⟨(wd_65 hw), (wd_111 hw)⟩) na_14
  have O_kd9 := fld_i v_kd9 na_15
  obtain ⟨kd10, S_kd10, E_kd10, v_kd10⟩ := sta_obj (Or.inr ⟨(wd_65 hw), (wd_94 hw)⟩) na_8
  have O_kd10 := fld_i v_kd10 na_9
  obtain ⟨kd11, S_kd11, E_kd11, v_kd11⟩ := sta_obj (Or.inr ⟨(wd_65 hw), (wd_109 hw)⟩) na_12
  have O_kd11 := fld_i v_kd11 na_13
  obtain ⟨kd12, S_kd12, E_kd12, v_kd12⟩ := sta_obj (Or.inr ⟨(wd_65 hw), (wd_90 hw)⟩) na_4
  have O_kd12 := fld_i v_kd12 na_5
  obtain ⟨kd13, S_kd13, E_kd13, v_kd13⟩ := sta_obj (Or.inr ⟨(wd_65 hw), (wd_119 hw)⟩) na_22
  have O_kd13 := fld_i v_kd13 na_23
  obtain ⟨kd14, S_kd14, E_kd14, v_kd14⟩ := sta_obj (Or.inr ⟨(wd_65 hw), (wd_127 hw)⟩) na_30
  have O_kd14 := fld_i v_kd14 na_31
  obtain ⟨kd15, S_kd15, E_kd15, v_kd15⟩ := sta_obj (Or.inr ⟨(wd_65 hw), (wd_131 hw)⟩) na_34
  have O_kd15 := fld_i v_kd15 na_35
  obtain ⟨kd16, S_kd16, E_kd16, v_kd16⟩ := sta_obj (Or.inr ⟨(wd_65 hw), (wd_113 hw)⟩) na_16
  have O_kd16 := fld_i v_kd16 na_17
  obtain ⟨kd17, S_kd17, E_kd17, v_kd17⟩ := sta_obj (Or.inr ⟨(wd_65 hw), (wd_123 hw)⟩) na_26
  have O_kd17 := fld_i v_kd17 na_27
  have hSt : St s zc kd0 kd1 kd2 kd3 kd4 kd5 kd6 kd7 kd8 kd9 kd10 kd11 kd12 kd13 kd14 kd15 kd16 kd17 := ⟨S_cs, n_cs, S_kd0, S_kd1, S_kd2, S_kd3, S_kd4, S_kd5, S_kd6, S_kd7, S_kd8, S_kd9, S_kd10, S_kd11, S_kd12, S_kd13, S_kd14, S_kd15, S_kd16, S_kd17, Fld.ne O_kd0 O_kd1 (by decide), Fld.ne O_kd2 O_kd1 (by decide), Fld.ne O_kd3 O_kd1 (by decide), Fld.ne O_kd4 O_kd1 (by decide), Fld.ne O_kd5 O_kd1 (by decide), Fld.ne O_kd6 O_kd1 (by decide), Fld.ne O_kd7 O_kd1 (by decide), Fld.ne O_kd8 O_kd1 (by decide), Fld.ne O_kd9 O_kd1 (by decide), Fld.ne O_kd10 O_kd1 (by decide), Fld.ne O_kd11 O_kd1 (by decide), Fld.ne O_kd12 O_kd1 (by decide), Fld.ne O_kd13 O_kd1 (by decide), Fld.ne O_kd14 O_kd1 (by decide), Fld.ne O_kd15 O_kd1 (by decide), Fld.ne O_kd16 O_kd1 (by decide), Fld.ne O_kd17 O_kd1 (by decide)⟩
  have hCV : CHv s EL s.vm s.heap := CHv.start (hEL_ hw) hcalls.1 (hsets _ (List.mem_of_getElem? (i := 2) rfl)) (wd_24 hw) (wd_6 hw)
  obtain ⟨n, o, h1, h2, h3, _, L, rfl, ⟨rfl, N⟩, -, hq⟩ := rm_law l s _ hw zc kd0 kd1 kd2 kd3 kd4 kd5 kd6 kd7 kd8 kd9 kd10 kd11 kd12 kd13 kd14 kd15 kd16 kd17 i0 i1 i2 i3 s.heap s.heap.size (Nat.le_refl _) hSt (Old.start s) p e ha hc hk s m _ below hf ((Spec.applies_iff_loose hf).mp happ).1 ⟨rfl, State.Warmed39.refl s, rfl, hCV⟩ trivial
  refine ⟨n, _, h1, h2, h3, hpost _ _ _ _ _ _ ⟨Cond.after_iff.mpr rfl, Cond.after_iff.mpr (eq_i res_at (Term.int_eval (1)) rfl), trivial⟩ ⟨hq.1, hq.2.1, hq.2.2.1, (hq.2.2.2.sift fun y hy => Or.inr (N y hy)).mono (by decide) (by decide)⟩⟩
theorem main_1_1 : Claimed_1_1 := comes_1 fun _ _ _ _ _ _ h hF => ⟨h.1, hF⟩
theorem main_1_2 : Claimed_1_2 := comes_1 fun _ _ _ _ _ _ h hF => ⟨h.2.1, hF⟩
end Jvm.Pilot.@@N@@
namespace Jvm.Pilot.@@N@@
open Jvm Jvm.ClassFile Sem Op Lib Jvm.Free Jvm.Stand Jvm.Pilot.@@N@@.Jvm.D
/-! MADE BY PROGRAM (witnessworld.py) out of the Statement's table words and the real class files: 24 classes; the members and pool entries that the words name. The judged class is class 1, her method 3. -/
namespace start1
open Jvm.ClassFile
def u (s : String) : CpInfo := .utf8 (stringToUtf16 s)
/-- a pool by its gaps: so many unusable entries, then the entry; so many at the end -/
def gap : Nat → List CpInfo → List CpInfo
  | 0, r => r
  | n + 1, r => .unusable :: gap n r
def poolList (es : List (Nat × CpInfo)) (last : Nat) : List CpInfo := es.foldr (fun e r => gap e.1 (e.2 :: r)) (gap last [])
def pool (es : List (Nat × CpInfo)) (last : Nat) : Array CpInfo := ⟨poolList es last⟩
def fileOf (pool : Array CpInfo) (this : Nat) (attrs : Array Attribute := #[]) (ms : Array MethodInfo := #[]) (fl : Nat := 33) (sup : Nat := 0) (ifs : Array Nat := #[]) (fds : Array FieldInfo := #[]) : ClassFile where
  minorVersion := 0
  majorVersion := 65
  constantPool := pool
  accessFlags := fl
  thisClass := this
  superClass := sup
  interfaces := ifs
  fields := fds
  methods := ms
  attributes := attrs
def plain (name : String) (sup : Option ClassId) : Class where
  name := name
  kind := .ordinary
  loader := none
  accessFlags := 33
  super := sup
  interfaces := #[]
  cf := none
  fields := #[]
  methods := #[]
  instanceTypes := #[]
  staticTypes := #[]
  resolved := #[]
  callSites := []
  init := .initialized
  statics := none
  mirror := none

def pool0 : Array CpInfo := pool [(5, u "<init>"), (0, u "()V"), (1, .class_ 10), (1, u "java/lang/Object")] 113

def k0c0 : Code := { maxStack := 0, maxLocals := 1, code := object_method_1_code, exceptionTable := #[], attributes := #[] }
def k0m0 : Method := { name := "<init>", desc := "()V", sig := { parameters := [], returnType := none }, accessFlags := 1, code := some k0c0 }
/-- java/lang/Object -/
def k0 : Class := { plain "java/lang/Object" none with
  accessFlags := 33
  interfaces := #[]
  cf := some (fileOf pool0 8 #[] #[{ accessFlags := 1, nameIndex := 5, descriptorIndex := 6, attributes := #[] }] 33 0 #[] #[])
  fields := #[]
  methods := #[k0m0]
  instanceTypes := #[]
  staticTypes := #[]
  resolved := Array.replicate 124 none
  statics := none }

def pool1 : Array CpInfo := pool [(2, .class_ 4), (1, u "java/lang/Object"), (0, u "<init>"), (0, u "()V"), (0, .fieldref 8 9), (0, .class_ 10), (0, .nameAndType 11 12), (0, u "com/example/stubwright/stubwright/idl/Token$Kind"), (0, u "IDENTIFIER"), (0, u "Lcom/example/stubwright/stubwright/idl/Token$Kind;"), (0, .fieldref 8 14), (0, .nameAndType 15 12), (0, u "KEYWORD"), (0, .fieldref 8 17), (0, .nameAndType 18 12), (0, u "INTEGER"), (0, .fieldref 8 20), (0, .nameAndType 21 12), (0, u "FLOATING_POINT"), (0, .fieldref 8 23), (0, .nameAndType 24 12), (0, u "FIXED_POINT"), (0, .fieldref 8 26), (0, .nameAndType 27 12), (0, u "CHARACTER"), (0, .fieldref 8 29), (0, .nameAndType 30 12), (0, u "WIDE_CHARACTER"), (0, .fieldref 8 32), (0, .nameAndType 33 12), (0, u "STRING"), (0, .fieldref 8 35), (0, .nameAndType 36 12), (0, u "WIDE_STRING"), (0, .fieldref 8 38), (0, .nameAndType 39 12), (0, u "PUNCTUATOR"), (0, .fieldref 8 41), (0, .nameAndType 42 12), (0, u "OTHER"), (0, .fieldref 8 44), (0, .nameAndType 45 12), (0, u "DIRECTIVE"), (0, .fieldref 8 47), (0, .nameAndType 48 12), (0, u "DIRECTIVE_END"), (0, .fieldref 8 50), (0, .nameAndType 51 12), (0, u "HEADER_NAME"), (0, .fieldref 8 53), (0, .nameAndType 54 12), (0, u "INCLUDE_START"), (0, .fieldref 8 56), (0, .nameAndType 57 12), (0, u "INCLUDE_END"), (0, .fieldref 8 59), (0, .nameAndType 60 12), (0, u "PRAGMA"), (0, .fieldref 8 62), (0, .nameAndType 63 12), (0, u "END"), (0, .class_ 65), (0, u "java/lang/String"), (0, .methodref 64 67), (0, .nameAndType 5 68), (0, u "([C)V"), (0, .integer 2147483647), (0, .methodref 71 72), (0, .class_ 73), (0, .nameAndType 74 75), (0, u "com/example/stubwright/stubwright/idl/TokenIsKeywordPinLaw"), (0, u "mk"), (0, u "(ICC)Ljava/lang/String;"), (0, .class_ 77), (0, u "com/example/stubwright/stubwright/SourcePosition"), (0, .string 79), (0, u "f"), (0, .methodref 76 81), (0, .nameAndType 5 82), (0, u "(Ljava/lang/String;II)V"), (0, .class_ 84), (0, u "com/example/stubwright/stubwright/idl/Token"), (0, .methodref 71 86), (0, .nameAndType 87 88), (0, u "kindOf"), (0, u "(I)Lcom/example/stubwright/stubwright/idl/Token$Kind;"), (0, .methodref 83 90), (0, .nameAndType 5 91), (0, u "(Lcom/example/stubwright/stubwright/idl/Token$Kind;Ljava/lang/String;Lcom/example/stubwright/stubwright/SourcePosition;)V"), (0, .methodref 83 93), (0, .nameAndType 94 95), (0, u "isKeyword"), (0, u "(Ljava/lang/String;)Z"), (3, u "law"), (0, u "(IIII)Z")] 4

def k1m0 : Method := { name := "<init>", desc := "()V", sig := { parameters := [], returnType := none }, accessFlags := 2, code := none }
def k1c1 : Code := { maxStack := 2, maxLocals := 1, code := method_2_code, exceptionTable := #[], attributes := #[] }
def k1m1 : Method := { name := "kindOf", desc := "(I)Lcom/example/stubwright/stubwright/idl/Token$Kind;", sig := { parameters := [.int], returnType := some (.object "com/example/stubwright/stubwright/idl/Token$Kind") }, accessFlags := 10, code := some k1c1 }
def k1c2 : Code := { maxStack := 6, maxLocals := 3, code := method_3_code, exceptionTable := #[], attributes := #[] }
def k1m2 : Method := { name := "mk", desc := "(ICC)Ljava/lang/String;", sig := { parameters := [.int, .char, .char], returnType := some (.object "java/lang/String") }, accessFlags := 10, code := some k1c2 }
def k1c3 : Code := { maxStack := 5, maxLocals := 17, code := code, exceptionTable := #[], attributes := #[] }
def k1m3 : Method := { name := "law", desc := "(IIII)Z", sig := { parameters := [.int, .int, .int, .int], returnType := some .boolean }, accessFlags := 9, code := some k1c3 }
/-- com/example/stubwright/stubwright/idl/TokenIsKeywordPinLaw -/
def k1 : Class := { plain "com/example/stubwright/stubwright/idl/TokenIsKeywordPinLaw" (some 0) with
  accessFlags := 49
  interfaces := #[]
  cf := some (fileOf pool1 71 #[] #[{ accessFlags := 2, nameIndex := 5, descriptorIndex := 6, attributes := #[] }, { accessFlags := 10, nameIndex := 87, descriptorIndex := 88, attributes := #[] }, { accessFlags := 10, nameIndex := 74, descriptorIndex := 75, attributes := #[] }, { accessFlags := 9, nameIndex := 99, descriptorIndex := 100, attributes := #[] }] 49 2 #[] #[])
  fields := #[]
  methods := #[k1m0, k1m1, k1m2, k1m3]
  instanceTypes := #[]
  staticTypes := #[]
  resolved := Array.replicate 105 none
  statics := none }

def pool2 : Array CpInfo := pool [(1, .class_ 2), (0, u "java/io/Serializable"), (0, .class_ 4), (0, u "java/lang/Object")] 2

/-- java/io/Serializable -/
def k2 : Class := { plain "java/io/Serializable" (some 0) with
  accessFlags := 1537
  interfaces := #[]
  cf := some (fileOf pool2 1 #[] #[] 1537 3 #[] #[])
  fields := #[]
  methods := #[]
  instanceTypes := #[]
  staticTypes := #[]
  resolved := Array.replicate 7 none
  statics := none }

def pool3 : Array CpInfo := pool [(1, .class_ 2), (0, u "java/lang/Comparable"), (0, .class_ 4), (0, u "java/lang/Object")] 7

/-- java/lang/Comparable -/
def k3 : Class := { plain "java/lang/Comparable" (some 0) with
  accessFlags := 1537
  interfaces := #[]
  cf := some (fileOf pool3 1 #[] #[] 1537 3 #[] #[])
  fields := #[]
  methods := #[]
  instanceTypes := #[]
  staticTypes := #[]
  resolved := Array.replicate 12 none
  statics := none }

def pool4 : Array CpInfo := pool [(2, .class_ 4), (1, u "java/lang/CharSequence"), (42, .class_ 48), (0, u "java/lang/CharSequence$1CodePointIterator"), (10, .class_ 60), (0, u "java/lang/CharSequence$1CharIterator"), (5, .class_ 67), (0, u "java/lang/Object")] 63

/-- java/lang/CharSequence -/
def k4 : Class := { plain "java/lang/CharSequence" (some 0) with
  accessFlags := 1537
  interfaces := #[]
  cf := some (fileOf pool4 2 #[.nestMembers #[47, 59]] #[] 1537 66 #[] #[])
  fields := #[]
  methods := #[]
  instanceTypes := #[]
  staticTypes := #[]
  resolved := Array.replicate 131 none
  statics := none }

def pool5 : Array CpInfo := pool [(1, .class_ 2), (0, u "java/lang/constant/Constable"), (0, .class_ 4), (0, u "java/lang/Object")] 6

/-- java/lang/constant/Constable -/
def k5 : Class := { plain "java/lang/constant/Constable" (some 0) with
  accessFlags := 1537
  interfaces := #[]
  cf := some (fileOf pool5 1 #[] #[] 1537 3 #[] #[])
  fields := #[]
  methods := #[]
  instanceTypes := #[]
  staticTypes := #[]
  resolved := Array.replicate 11 none
  statics := none }

def pool6 : Array CpInfo := pool [(1, .class_ 2), (0, u "java/lang/constant/ConstantDesc"), (0, .class_ 4), (0, u "java/lang/Object")] 32

/-- java/lang/constant/ConstantDesc -/
def k6 : Class := { plain "java/lang/constant/ConstantDesc" (some 0) with
  accessFlags := 1537
  interfaces := #[]
  cf := some (fileOf pool6 1 #[] #[] 1537 3 #[] #[])
  fields := #[]
  methods := #[]
  instanceTypes := #[]
  staticTypes := #[]
  resolved := Array.replicate 37 none
  statics := none }

def pool7 : Array CpInfo := pool [(1, .methodref 2 3), (0, .class_ 4), (0, .nameAndType 5 6), (0, u "java/lang/Object"), (0, u "<init>"), (0, u "()V"), (0, .string 8), (0, u ""), (0, .fieldref 10 11), (0, .class_ 12), (0, .nameAndType 13 14), (0, u "java/lang/String"), (0, u "value"), (0, u "[B"), (0, .fieldref 10 16), (0, .nameAndType 17 18), (0, u "coder"), (0, u "B"), (2, u "hash"), (0, u "I"), (2, u "hashIsZero"), (0, u "Z"), (0, .methodref 10 28), (0, .nameAndType 5 29), (0, u "([CIILjava/lang/Void;)V"), (8, .fieldref 10 39), (0, .nameAndType 40 26), (0, u "COMPACT_STRINGS"), (1, .class_ 44), (1, u "java/lang/StringUTF16"), (0, u "compress"), (1, .methodref 42 48), (0, .nameAndType 49 50), (0, u "coderFromArrayLen"), (0, u "([BI)B"), (56, .class_ 109), (1, u "java/lang/StringLatin1"), (67, .methodref 42 178), (0, .nameAndType 45 179), (0, u "([CII)[B"), (361, .methodref 107 542), (0, .nameAndType 543 544), (0, u "equals"), (0, u "([B[B)Z"), (28, u "(Ljava/lang/Object;)Z"), (1, .class_ 576), (0, u "java/lang/CharSequence"), (22, u "CASE_INSENSITIVE_ORDER"), (0, u "Ljava/util/Comparator;"), (409, u "([C)V"), (90, u "serialPersistentFields"), (0, u "[Ljava/io/ObjectStreamField;"), (0, .class_ 1104), (0, u "java/lang/String$CaseInsensitiveComparator"), (1, .class_ 1107), (0, u "java/io/Serializable"), (0, .class_ 1109), (0, u "java/lang/Comparable"), (0, .class_ 1111), (0, u "java/lang/constant/Constable"), (0, .class_ 1113), (0, u "java/lang/constant/ConstantDesc"), (2, u "serialVersionUID"), (0, u "J"), (3, u "REPL"), (0, u "C"), (2, u "LATIN1"), (1, u "UTF16")] 323

def k7m0 : Method := { name := "<init>", desc := "()V", sig := { parameters := [], returnType := none }, accessFlags := 1, code := none }
def k7c1 : Code := { maxStack := 5, maxLocals := 2, code := jdk_42_method_3_code, exceptionTable := #[], attributes := #[] }
def k7m1 : Method := { name := "<init>", desc := "([C)V", sig := { parameters := [(.array .char)], returnType := none }, accessFlags := 1, code := some k7c1 }
def k7c2 : Code := { maxStack := 2, maxLocals := 3, code := jdk_42_method_66_code, exceptionTable := #[], attributes := #[] }
def k7m2 : Method := { name := "equals", desc := "(Ljava/lang/Object;)Z", sig := { parameters := [(.object "java/lang/Object")], returnType := some .boolean }, accessFlags := 1, code := some k7c2 }
def k7c3 : Code := { maxStack := 4, maxLocals := 6, code := jdk_42_method_149_code, exceptionTable := #[], attributes := #[] }
def k7m3 : Method := { name := "<init>", desc := "([CIILjava/lang/Void;)V", sig := { parameters := [(.array .char), .int, .int, (.object "java/lang/Void")], returnType := none }, accessFlags := 2, code := some k7c3 }
/-- java/lang/String -/
def k7 : Class := { plain "java/lang/String" (some 0) with
  accessFlags := 49
  interfaces := #[2, 3, 4, 5, 6]
  cf := some (fileOf pool7 10 #[.nestMembers #[1103]] #[{ accessFlags := 1, nameIndex := 5, descriptorIndex := 6, attributes := #[] }, { accessFlags := 1, nameIndex := 5, descriptorIndex := 1010, attributes := #[] }, { accessFlags := 1, nameIndex := 543, descriptorIndex := 573, attributes := #[] }, { accessFlags := 2, nameIndex := 5, descriptorIndex := 29, attributes := #[] }] 49 2 #[1106, 1108, 575, 1110, 1112] #[{ accessFlags := 18, nameIndex := 13, descriptorIndex := 14, attributes := #[] }, { accessFlags := 18, nameIndex := 17, descriptorIndex := 18, attributes := #[] }, { accessFlags := 2, nameIndex := 21, descriptorIndex := 22, attributes := #[] }, { accessFlags := 2, nameIndex := 25, descriptorIndex := 26, attributes := #[] }, { accessFlags := 26, nameIndex := 1116, descriptorIndex := 1117, attributes := #[] }, { accessFlags := 24, nameIndex := 40, descriptorIndex := 26, attributes := #[] }, { accessFlags := 26, nameIndex := 1101, descriptorIndex := 1102, attributes := #[] }, { accessFlags := 26, nameIndex := 1121, descriptorIndex := 1122, attributes := #[] }, { accessFlags := 25, nameIndex := 599, descriptorIndex := 600, attributes := #[] }, { accessFlags := 24, nameIndex := 1125, descriptorIndex := 18, attributes := #[] }, { accessFlags := 24, nameIndex := 1127, descriptorIndex := 18, attributes := #[] }])
  fields := #[{ name := "value", type := (.array .byte), accessFlags := 18, slot := 0, constantValue := 0 }, { name := "coder", type := .byte, accessFlags := 18, slot := 1, constantValue := 0 }, { name := "hash", type := .int, accessFlags := 2, slot := 2, constantValue := 0 }, { name := "hashIsZero", type := .boolean, accessFlags := 2, slot := 3, constantValue := 0 }, { name := "serialVersionUID", type := .long, accessFlags := 26, slot := 0, constantValue := 0 }, { name := "COMPACT_STRINGS", type := .boolean, accessFlags := 24, slot := 1, constantValue := 0 }, { name := "serialPersistentFields", type := (.array (.object "java/io/ObjectStreamField")), accessFlags := 26, slot := 2, constantValue := 0 }, { name := "REPL", type := .char, accessFlags := 26, slot := 3, constantValue := 0 }, { name := "CASE_INSENSITIVE_ORDER", type := (.object "java/util/Comparator"), accessFlags := 25, slot := 4, constantValue := 0 }, { name := "LATIN1", type := .byte, accessFlags := 24, slot := 5, constantValue := 0 }, { name := "UTF16", type := .byte, accessFlags := 24, slot := 6, constantValue := 0 }]
  methods := #[k7m0, k7m1, k7m2, k7m3]
  instanceTypes := #[(.array .byte), .byte, .int, .boolean]
  staticTypes := #[.long, .boolean, (.array (.object "java/io/ObjectStreamField")), .char, (.object "java/util/Comparator"), .byte, .byte]
  resolved := Array.replicate 1451 none
  statics := some 0 }

def pool8 : Array CpInfo := pool [(6, .class_ 8), (1, u "java/lang/Object"), (0, u "<init>"), (0, u "()V"), (1, .class_ 14), (1, u "java/lang/StringUTF16"), (31, u "$assertionsDisabled"), (0, u "Z"), (13, u "HI_BYTE_SHIFT"), (0, u "I"), (2, u "LO_BYTE_SHIFT"), (49, .methodref 12 116), (0, .nameAndType 117 118), (0, u "compress"), (0, u "([CI[BII)I"), (3, u "([CII)[B"), (138, u "coderFromArrayLen"), (0, u "([BI)B"), (106, .class_ 371), (1, u "java/lang/StringUTF16$LinesSpliterator"), (58, u "MAX_LENGTH"), (196, .class_ 628), (0, u "java/lang/StringUTF16$CodePointsSpliterator"), (0, .class_ 630), (0, u "java/lang/StringUTF16$CharsSpliterator")] 4

def k8m0 : Method := { name := "<init>", desc := "()V", sig := { parameters := [], returnType := none }, accessFlags := 0, code := none }
def k8c1 : Code := { maxStack := 2, maxLocals := 2, code := jdk_52_method_15_code, exceptionTable := #[], attributes := #[] }
def k8m1 : Method := { name := "coderFromArrayLen", desc := "([BI)B", sig := { parameters := [(.array .byte), .int], returnType := some .byte }, accessFlags := 8, code := some k8c1 }
def k8c2 : Code := { maxStack := 5, maxLocals := 6, code := jdk_52_method_16_code, exceptionTable := #[], attributes := #[] }
def k8m2 : Method := { name := "compress", desc := "([CII)[B", sig := { parameters := [(.array .char), .int, .int], returnType := some (.array .byte) }, accessFlags := 9, code := some k8c2 }
def k8c3 : Code := { maxStack := 3, maxLocals := 7, code := jdk_52_method_21_code, exceptionTable := #[], attributes := #[] }
def k8m3 : Method := { name := "compress", desc := "([CI[BII)I", sig := { parameters := [(.array .char), .int, (.array .byte), .int, .int], returnType := some .int }, accessFlags := 9, code := some k8c3 }
/-- java/lang/StringUTF16 -/
def k8 : Class := { plain "java/lang/StringUTF16" (some 0) with
  accessFlags := 48
  interfaces := #[]
  cf := some (fileOf pool8 12 #[.nestMembers #[627, 629, 369]] #[{ accessFlags := 0, nameIndex := 9, descriptorIndex := 10, attributes := #[] }, { accessFlags := 8, nameIndex := 261, descriptorIndex := 262, attributes := #[] }, { accessFlags := 9, nameIndex := 117, descriptorIndex := 122, attributes := #[] }, { accessFlags := 9, nameIndex := 117, descriptorIndex := 118, attributes := #[] }] 48 6 #[] #[{ accessFlags := 26, nameIndex := 61, descriptorIndex := 62, attributes := #[] }, { accessFlags := 26, nameIndex := 65, descriptorIndex := 62, attributes := #[] }, { accessFlags := 24, nameIndex := 430, descriptorIndex := 62, attributes := #[] }, { accessFlags := 4120, nameIndex := 46, descriptorIndex := 47, attributes := #[] }])
  fields := #[{ name := "HI_BYTE_SHIFT", type := .int, accessFlags := 26, slot := 0, constantValue := 0 }, { name := "LO_BYTE_SHIFT", type := .int, accessFlags := 26, slot := 1, constantValue := 0 }, { name := "MAX_LENGTH", type := .int, accessFlags := 24, slot := 2, constantValue := 0 }, { name := "$assertionsDisabled", type := .boolean, accessFlags := 4120, slot := 3, constantValue := 0 }]
  methods := #[k8m0, k8m1, k8m2, k8m3]
  instanceTypes := #[]
  staticTypes := #[.int, .int, .int, .boolean]
  resolved := Array.replicate 635 none
  statics := none }

def pool9 : Array CpInfo := pool [(1, .methodref 2 3), (0, .class_ 4), (0, .nameAndType 5 6), (0, u "java/lang/Object"), (0, u "<init>"), (0, u "()V"), (0, .string 8), (0, u "file"), (0, .methodref 10 11), (0, .class_ 12), (0, .nameAndType 13 14), (0, u "java/util/Objects"), (0, u "requireNonNull"), (0, u "(Ljava/lang/Object;Ljava/lang/String;)Ljava/lang/Object;"), (0, .class_ 16), (0, u "java/lang/String"), (0, .fieldref 18 19), (0, .class_ 20), (0, .nameAndType 8 21), (0, u "com/example/stubwright/stubwright/SourcePosition"), (0, u "Ljava/lang/String;"), (0, .fieldref 18 23), (0, .nameAndType 24 25), (0, u "line"), (0, u "I"), (0, .fieldref 18 27), (0, .nameAndType 28 25), (0, u "column"), (4, u "(Ljava/lang/String;II)V")] 22

def k9c0 : Code := { maxStack := 3, maxLocals := 4, code := prog_4_method_1_code, exceptionTable := #[], attributes := #[] }
def k9m0 : Method := { name := "<init>", desc := "(Ljava/lang/String;II)V", sig := { parameters := [(.object "java/lang/String"), .int, .int], returnType := none }, accessFlags := 1, code := some k9c0 }
/-- com/example/stubwright/stubwright/SourcePosition -/
def k9 : Class := { plain "com/example/stubwright/stubwright/SourcePosition" (some 0) with
  accessFlags := 49
  interfaces := #[]
  cf := some (fileOf pool9 18 #[] #[{ accessFlags := 1, nameIndex := 5, descriptorIndex := 33, attributes := #[] }] 49 2 #[] #[{ accessFlags := 18, nameIndex := 8, descriptorIndex := 21, attributes := #[] }, { accessFlags := 18, nameIndex := 24, descriptorIndex := 25, attributes := #[] }, { accessFlags := 18, nameIndex := 28, descriptorIndex := 25, attributes := #[] }])
  fields := #[{ name := "file", type := (.object "java/lang/String"), accessFlags := 18, slot := 0, constantValue := 0 }, { name := "line", type := .int, accessFlags := 18, slot := 1, constantValue := 0 }, { name := "column", type := .int, accessFlags := 18, slot := 2, constantValue := 0 }]
  methods := #[k9m0]
  instanceTypes := #[(.object "java/lang/String"), .int, .int]
  staticTypes := #[]
  resolved := Array.replicate 56 none
  statics := none }

def pool10 : Array CpInfo := pool [(2, .class_ 4), (1, u "java/lang/Object"), (0, u "<init>"), (0, u "()V"), (35, .class_ 44), (1, u "java/util/Objects"), (0, u "requireNonNull"), (48, u "(Ljava/lang/Object;Ljava/lang/String;)Ljava/lang/Object;")] 89

def k10m0 : Method := { name := "<init>", desc := "()V", sig := { parameters := [], returnType := none }, accessFlags := 2, code := none }
def k10c1 : Code := { maxStack := 3, maxLocals := 2, code := jdk_31_method_11_code, exceptionTable := #[], attributes := #[] }
def k10m1 : Method := { name := "requireNonNull", desc := "(Ljava/lang/Object;Ljava/lang/String;)Ljava/lang/Object;", sig := { parameters := [(.object "java/lang/Object"), (.object "java/lang/String")], returnType := some (.object "java/lang/Object") }, accessFlags := 9, code := some k10c1 }
/-- java/util/Objects -/
def k10 : Class := { plain "java/util/Objects" (some 0) with
  accessFlags := 49
  interfaces := #[]
  cf := some (fileOf pool10 42 #[] #[{ accessFlags := 2, nameIndex := 5, descriptorIndex := 6, attributes := #[] }, { accessFlags := 9, nameIndex := 45, descriptorIndex := 94, attributes := #[] }] 49 2 #[] #[])
  fields := #[]
  methods := #[k10m0, k10m1]
  instanceTypes := #[]
  staticTypes := #[]
  resolved := Array.replicate 184 none
  statics := none }

def pool11 : Array CpInfo := pool [(1, .methodref 2 3), (0, .class_ 4), (0, .nameAndType 5 6), (0, u "com/example/stubwright/stubwright/idl/Token"), (0, u "<init>"), (0, u "(Lcom/example/stubwright/stubwright/idl/Token$Kind;Ljava/lang/String;Lcom/example/stubwright/stubwright/SourcePosition;Z)V"), (0, .methodref 8 9), (0, .class_ 10), (0, .nameAndType 5 11), (0, u "java/lang/Object"), (0, u "()V"), (0, .fieldref 2 13), (0, .nameAndType 14 15), (0, u "kind"), (0, u "Lcom/example/stubwright/stubwright/idl/Token$Kind;"), (0, .fieldref 2 17), (0, .nameAndType 18 19), (0, u "text"), (0, u "Ljava/lang/String;"), (0, .fieldref 2 21), (0, .nameAndType 22 23), (0, u "position"), (0, u "Lcom/example/stubwright/stubwright/SourcePosition;"), (0, .fieldref 2 25), (0, .nameAndType 26 27), (0, u "escaped"), (0, u "Z"), (1, .class_ 31), (1, u "com/example/stubwright/stubwright/idl/Token$Kind"), (5, .fieldref 29 38), (0, .nameAndType 39 15), (0, u "KEYWORD"), (0, .methodref 41 42), (0, .class_ 43), (0, .nameAndType 44 45), (0, u "java/lang/String"), (0, u "equals"), (0, u "(Ljava/lang/Object;)Z"), (23, u "QUOTED_LENGTH"), (0, u "I"), (2, u "(Lcom/example/stubwright/stubwright/idl/Token$Kind;Ljava/lang/String;Lcom/example/stubwright/stubwright/SourcePosition;)V"), (13, u "isKeyword"), (0, u "(Ljava/lang/String;)Z")] 25

def k11c0 : Code := { maxStack := 5, maxLocals := 4, code := prog_36_method_1_code, exceptionTable := #[], attributes := #[] }
def k11m0 : Method := { name := "<init>", desc := "(Lcom/example/stubwright/stubwright/idl/Token$Kind;Ljava/lang/String;Lcom/example/stubwright/stubwright/SourcePosition;)V", sig := { parameters := [(.object "com/example/stubwright/stubwright/idl/Token$Kind"), (.object "java/lang/String"), (.object "com/example/stubwright/stubwright/SourcePosition")], returnType := none }, accessFlags := 0, code := some k11c0 }
def k11c1 : Code := { maxStack := 2, maxLocals := 5, code := prog_36_method_2_code, exceptionTable := #[], attributes := #[] }
def k11m1 : Method := { name := "<init>", desc := "(Lcom/example/stubwright/stubwright/idl/Token$Kind;Ljava/lang/String;Lcom/example/stubwright/stubwright/SourcePosition;Z)V", sig := { parameters := [(.object "com/example/stubwright/stubwright/idl/Token$Kind"), (.object "java/lang/String"), (.object "com/example/stubwright/stubwright/SourcePosition"), .boolean], returnType := none }, accessFlags := 2, code := some k11c1 }
def k11c2 : Code := { maxStack := 2, maxLocals := 2, code := prog_36_method_10_code, exceptionTable := #[], attributes := #[] }
def k11m2 : Method := { name := "isKeyword", desc := "(Ljava/lang/String;)Z", sig := { parameters := [(.object "java/lang/String")], returnType := some .boolean }, accessFlags := 0, code := some k11c2 }
/-- com/example/stubwright/stubwright/idl/Token -/
def k11 : Class := { plain "com/example/stubwright/stubwright/idl/Token" (some 0) with
  accessFlags := 48
  interfaces := #[]
  cf := some (fileOf pool11 2 #[.nestMembers #[29]] #[{ accessFlags := 0, nameIndex := 5, descriptorIndex := 73, attributes := #[] }, { accessFlags := 2, nameIndex := 5, descriptorIndex := 6, attributes := #[] }, { accessFlags := 0, nameIndex := 87, descriptorIndex := 88, attributes := #[] }] 48 8 #[] #[{ accessFlags := 26, nameIndex := 69, descriptorIndex := 70, attributes := #[] }, { accessFlags := 18, nameIndex := 14, descriptorIndex := 15, attributes := #[] }, { accessFlags := 18, nameIndex := 18, descriptorIndex := 19, attributes := #[] }, { accessFlags := 18, nameIndex := 22, descriptorIndex := 23, attributes := #[] }, { accessFlags := 18, nameIndex := 26, descriptorIndex := 27, attributes := #[] }])
  fields := #[{ name := "QUOTED_LENGTH", type := .int, accessFlags := 26, slot := 0, constantValue := 0 }, { name := "kind", type := (.object "com/example/stubwright/stubwright/idl/Token$Kind"), accessFlags := 18, slot := 0, constantValue := 0 }, { name := "text", type := (.object "java/lang/String"), accessFlags := 18, slot := 1, constantValue := 0 }, { name := "position", type := (.object "com/example/stubwright/stubwright/SourcePosition"), accessFlags := 18, slot := 2, constantValue := 0 }, { name := "escaped", type := .boolean, accessFlags := 18, slot := 3, constantValue := 0 }]
  methods := #[k11m0, k11m1, k11m2]
  instanceTypes := #[(.object "com/example/stubwright/stubwright/idl/Token$Kind"), (.object "java/lang/String"), (.object "com/example/stubwright/stubwright/SourcePosition"), .boolean]
  staticTypes := #[.int]
  resolved := Array.replicate 114 none
  statics := none }

def pool12 : Array CpInfo := pool [(2, .class_ 4), (1, u "java/lang/Enum"), (0, u "name"), (0, u "Ljava/lang/String;"), (2, u "ordinal"), (0, u "I"), (1, .class_ 14), (1, u "java/lang/Object"), (4, u "hash"), (86, .class_ 108), (1, u "java/lang/Enum$EnumDesc"), (2, .class_ 112), (0, u "java/lang/constant/Constable"), (0, .class_ 114), (0, u "java/lang/Comparable"), (0, .class_ 116), (0, u "java/io/Serializable")] 87

/-- java/lang/Enum -/
def k12 : Class := { plain "java/lang/Enum" (some 0) with
  accessFlags := 1057
  interfaces := #[5, 3, 2]
  cf := some (fileOf pool12 2 #[.nestMembers #[106]] #[] 1057 12 #[111, 113, 115] #[{ accessFlags := 18, nameIndex := 5, descriptorIndex := 6, attributes := #[] }, { accessFlags := 18, nameIndex := 9, descriptorIndex := 10, attributes := #[] }, { accessFlags := 2, nameIndex := 19, descriptorIndex := 10, attributes := #[] }])
  fields := #[{ name := "name", type := (.object "java/lang/String"), accessFlags := 18, slot := 0, constantValue := 0 }, { name := "ordinal", type := .int, accessFlags := 18, slot := 1, constantValue := 0 }, { name := "hash", type := .int, accessFlags := 2, slot := 2, constantValue := 0 }]
  methods := #[]
  instanceTypes := #[(.object "java/lang/String"), .int, .int]
  staticTypes := #[]
  resolved := Array.replicate 204 none
  statics := none }

def pool13 : Array CpInfo := pool [(1, .class_ 2), (0, u "com/example/stubwright/stubwright/idl/Token$Kind"), (2, u "IDENTIFIER"), (0, u "Lcom/example/stubwright/stubwright/idl/Token$Kind;"), (2, u "KEYWORD"), (2, u "INTEGER"), (2, u "FLOATING_POINT"), (2, u "FIXED_POINT"), (2, u "CHARACTER"), (2, u "WIDE_CHARACTER"), (2, u "STRING"), (2, u "WIDE_STRING"), (2, u "PUNCTUATOR"), (2, u "OTHER"), (2, u "DIRECTIVE"), (2, u "DIRECTIVE_END"), (2, u "HEADER_NAME"), (2, u "INCLUDE_START"), (2, u "INCLUDE_END"), (2, u "PRAGMA"), (2, u "END"), (2, u "$VALUES"), (0, u "[Lcom/example/stubwright/stubwright/idl/Token$Kind;"), (6, .class_ 70), (1, u "java/lang/Enum"), (41, .class_ 113), (0, u "com/example/stubwright/stubwright/idl/Token")] 2

/-- com/example/stubwright/stubwright/idl/Token$Kind -/
def k13 : Class := { plain "com/example/stubwright/stubwright/idl/Token$Kind" (some 12) with
  accessFlags := 16432
  interfaces := #[]
  cf := some (fileOf pool13 1 #[.nestHost 112] #[] 16432 68 #[] #[{ accessFlags := 16409, nameIndex := 5, descriptorIndex := 6, attributes := #[] }, { accessFlags := 16409, nameIndex := 9, descriptorIndex := 6, attributes := #[] }, { accessFlags := 16409, nameIndex := 12, descriptorIndex := 6, attributes := #[] }, { accessFlags := 16409, nameIndex := 15, descriptorIndex := 6, attributes := #[] }, { accessFlags := 16409, nameIndex := 18, descriptorIndex := 6, attributes := #[] }, { accessFlags := 16409, nameIndex := 21, descriptorIndex := 6, attributes := #[] }, { accessFlags := 16409, nameIndex := 24, descriptorIndex := 6, attributes := #[] }, { accessFlags := 16409, nameIndex := 27, descriptorIndex := 6, attributes := #[] }, { accessFlags := 16409, nameIndex := 30, descriptorIndex := 6, attributes := #[] }, { accessFlags := 16409, nameIndex := 33, descriptorIndex := 6, attributes := #[] }, { accessFlags := 16409, nameIndex := 36, descriptorIndex := 6, attributes := #[] }, { accessFlags := 16409, nameIndex := 39, descriptorIndex := 6, attributes := #[] }, { accessFlags := 16409, nameIndex := 42, descriptorIndex := 6, attributes := #[] }, { accessFlags := 16409, nameIndex := 45, descriptorIndex := 6, attributes := #[] }, { accessFlags := 16409, nameIndex := 48, descriptorIndex := 6, attributes := #[] }, { accessFlags := 16409, nameIndex := 51, descriptorIndex := 6, attributes := #[] }, { accessFlags := 16409, nameIndex := 54, descriptorIndex := 6, attributes := #[] }, { accessFlags := 16409, nameIndex := 57, descriptorIndex := 6, attributes := #[] }, { accessFlags := 4122, nameIndex := 60, descriptorIndex := 61, attributes := #[] }])
  fields := #[{ name := "IDENTIFIER", type := (.object "com/example/stubwright/stubwright/idl/Token$Kind"), accessFlags := 16409, slot := 0, constantValue := 0 }, { name := "KEYWORD", type := (.object "com/example/stubwright/stubwright/idl/Token$Kind"), accessFlags := 16409, slot := 1, constantValue := 0 }, { name := "INTEGER", type := (.object "com/example/stubwright/stubwright/idl/Token$Kind"), accessFlags := 16409, slot := 2, constantValue := 0 }, { name := "FLOATING_POINT", type := (.object "com/example/stubwright/stubwright/idl/Token$Kind"), accessFlags := 16409, slot := 3, constantValue := 0 }, { name := "FIXED_POINT", type := (.object "com/example/stubwright/stubwright/idl/Token$Kind"), accessFlags := 16409, slot := 4, constantValue := 0 }, { name := "CHARACTER", type := (.object "com/example/stubwright/stubwright/idl/Token$Kind"), accessFlags := 16409, slot := 5, constantValue := 0 }, { name := "WIDE_CHARACTER", type := (.object "com/example/stubwright/stubwright/idl/Token$Kind"), accessFlags := 16409, slot := 6, constantValue := 0 }, { name := "STRING", type := (.object "com/example/stubwright/stubwright/idl/Token$Kind"), accessFlags := 16409, slot := 7, constantValue := 0 }, { name := "WIDE_STRING", type := (.object "com/example/stubwright/stubwright/idl/Token$Kind"), accessFlags := 16409, slot := 8, constantValue := 0 }, { name := "PUNCTUATOR", type := (.object "com/example/stubwright/stubwright/idl/Token$Kind"), accessFlags := 16409, slot := 9, constantValue := 0 }, { name := "OTHER", type := (.object "com/example/stubwright/stubwright/idl/Token$Kind"), accessFlags := 16409, slot := 10, constantValue := 0 }, { name := "DIRECTIVE", type := (.object "com/example/stubwright/stubwright/idl/Token$Kind"), accessFlags := 16409, slot := 11, constantValue := 0 }, { name := "DIRECTIVE_END", type := (.object "com/example/stubwright/stubwright/idl/Token$Kind"), accessFlags := 16409, slot := 12, constantValue := 0 }, { name := "HEADER_NAME", type := (.object "com/example/stubwright/stubwright/idl/Token$Kind"), accessFlags := 16409, slot := 13, constantValue := 0 }, { name := "INCLUDE_START", type := (.object "com/example/stubwright/stubwright/idl/Token$Kind"), accessFlags := 16409, slot := 14, constantValue := 0 }, { name := "INCLUDE_END", type := (.object "com/example/stubwright/stubwright/idl/Token$Kind"), accessFlags := 16409, slot := 15, constantValue := 0 }, { name := "PRAGMA", type := (.object "com/example/stubwright/stubwright/idl/Token$Kind"), accessFlags := 16409, slot := 16, constantValue := 0 }, { name := "END", type := (.object "com/example/stubwright/stubwright/idl/Token$Kind"), accessFlags := 16409, slot := 17, constantValue := 0 }, { name := "$VALUES", type := (.array (.object "com/example/stubwright/stubwright/idl/Token$Kind")), accessFlags := 4122, slot := 18, constantValue := 0 }]
  methods := #[]
  instanceTypes := #[(.object "java/lang/String"), .int, .int]
  staticTypes := #[(.object "com/example/stubwright/stubwright/idl/Token$Kind"), (.object "com/example/stubwright/stubwright/idl/Token$Kind"), (.object "com/example/stubwright/stubwright/idl/Token$Kind"), (.object "com/example/stubwright/stubwright/idl/Token$Kind"), (.object "com/example/stubwright/stubwright/idl/Token$Kind"), (.object "com/example/stubwright/stubwright/idl/Token$Kind"), (.object "com/example/stubwright/stubwright/idl/Token$Kind"), (.object "com/example/stubwright/stubwright/idl/Token$Kind"), (.object "com/example/stubwright/stubwright/idl/Token$Kind"), (.object "com/example/stubwright/stubwright/idl/Token$Kind"), (.object "com/example/stubwright/stubwright/idl/Token$Kind"), (.object "com/example/stubwright/stubwright/idl/Token$Kind"), (.object "com/example/stubwright/stubwright/idl/Token$Kind"), (.object "com/example/stubwright/stubwright/idl/Token$Kind"), (.object "com/example/stubwright/stubwright/idl/Token$Kind"), (.object "com/example/stubwright/stubwright/idl/Token$Kind"), (.object "com/example/stubwright/stubwright/idl/Token$Kind"), (.object "com/example/stubwright/stubwright/idl/Token$Kind"), (.array (.object "com/example/stubwright/stubwright/idl/Token$Kind"))]
  resolved := Array.replicate 116 none
  statics := some 1 }

def pool14 : Array CpInfo := pool [(4, .class_ 6), (1, u "java/lang/Object"), (0, u "<init>"), (0, u "()V"), (5, .class_ 16), (1, u "java/lang/StringLatin1"), (104, u "$assertionsDisabled"), (0, u "Z"), (98, .class_ 223), (1, u "java/lang/StringLatin1$LinesSpliterator"), (57, u "equals"), (0, u "([B[B)Z"), (107, .class_ 391), (0, u "java/lang/StringLatin1$CharsSpliterator")] 3

def k14m0 : Method := { name := "<init>", desc := "()V", sig := { parameters := [], returnType := none }, accessFlags := 0, code := none }
def k14c1 : Code := { maxStack := 3, maxLocals := 3, code := jdk_43_method_13_code, exceptionTable := #[], attributes := #[] }
def k14m1 : Method := { name := "equals", desc := "([B[B)Z", sig := { parameters := [(.array .byte), (.array .byte)], returnType := some .boolean }, accessFlags := 9, code := some k14c1 }
/-- java/lang/StringLatin1 -/
def k14 : Class := { plain "java/lang/StringLatin1" (some 0) with
  accessFlags := 48
  interfaces := #[]
  cf := some (fileOf pool14 14 #[.nestMembers #[390, 221]] #[{ accessFlags := 0, nameIndex := 7, descriptorIndex := 8, attributes := #[] }, { accessFlags := 9, nameIndex := 281, descriptorIndex := 282, attributes := #[] }] 48 4 #[] #[{ accessFlags := 4120, nameIndex := 121, descriptorIndex := 122, attributes := #[] }])
  fields := #[{ name := "$assertionsDisabled", type := .boolean, accessFlags := 4120, slot := 0, constantValue := 0 }]
  methods := #[k14m0, k14m1]
  instanceTypes := #[]
  staticTypes := #[.boolean]
  resolved := Array.replicate 395 none
  statics := none }

def pool15 : Array CpInfo := pool [(2, .class_ 4), (1, u "java/lang/Object"), (0, u "<init>"), (0, u "()V"), (17, .class_ 26), (1, u "jdk/internal/util/Preconditions"), (28, .class_ 56), (0, u "jdk/internal/util/Preconditions$4"), (57, .class_ 115), (0, u "jdk/internal/util/Preconditions$1"), (7, u "SIOOBE_FORMATTER"), (0, u "Ljava/util/function/BiFunction;"), (0, .class_ 126), (0, u "jdk/internal/util/Preconditions$2"), (3, u "AIOOBE_FORMATTER"), (0, .class_ 132), (0, u "jdk/internal/util/Preconditions$3"), (3, u "IOOBE_FORMATTER")] 57

def k15m0 : Method := { name := "<init>", desc := "()V", sig := { parameters := [], returnType := none }, accessFlags := 1, code := none }
/-- jdk/internal/util/Preconditions -/
def k15 : Class := { plain "jdk/internal/util/Preconditions" (some 0) with
  accessFlags := 33
  interfaces := #[]
  cf := some (fileOf pool15 24 #[.nestMembers #[55, 131, 125, 114]] #[{ accessFlags := 1, nameIndex := 5, descriptorIndex := 6, attributes := #[] }] 33 2 #[] #[{ accessFlags := 25, nameIndex := 123, descriptorIndex := 124, attributes := #[] }, { accessFlags := 25, nameIndex := 130, descriptorIndex := 124, attributes := #[] }, { accessFlags := 25, nameIndex := 136, descriptorIndex := 124, attributes := #[] }])
  fields := #[{ name := "SIOOBE_FORMATTER", type := (.object "java/util/function/BiFunction"), accessFlags := 25, slot := 0, constantValue := 0 }, { name := "AIOOBE_FORMATTER", type := (.object "java/util/function/BiFunction"), accessFlags := 25, slot := 1, constantValue := 0 }, { name := "IOOBE_FORMATTER", type := (.object "java/util/function/BiFunction"), accessFlags := 25, slot := 2, constantValue := 0 }]
  methods := #[k15m0]
  instanceTypes := #[]
  staticTypes := #[(.object "java/util/function/BiFunction"), (.object "java/util/function/BiFunction"), (.object "java/util/function/BiFunction")]
  resolved := Array.replicate 194 none
  statics := some 2 }

def pool16 : Array CpInfo := pool [(9, u "<init>"), (6, .class_ 18), (1, u "java/lang/Object"), (0, u "()V"), (1, .class_ 23), (1, u "jdk/internal/util/ArraysSupport"), (0, u "LOG2_ARRAY_LONG_INDEX_SCALE"), (0, u "I"), (2, u "U"), (0, u "Ljdk/internal/misc/Unsafe;"), (8, u "BIG_ENDIAN"), (0, u "Z"), (8, u "LOG2_BYTE_BIT_SIZE"), (4, u "LOG2_ARRAY_INT_INDEX_SCALE"), (54, u "JLA"), (0, u "Ljdk/internal/access/JavaLangAccess;"), (11, u "LOG2_ARRAY_BOOLEAN_INDEX_SCALE"), (9, u "LOG2_ARRAY_BYTE_INDEX_SCALE"), (5, u "LOG2_ARRAY_CHAR_INDEX_SCALE"), (5, u "LOG2_ARRAY_SHORT_INDEX_SCALE"), (18, u "LOG2_ARRAY_FLOAT_INDEX_SCALE"), (24, u "LOG2_ARRAY_DOUBLE_INDEX_SCALE"), (89, u "T_BOOLEAN"), (2, u "T_CHAR"), (1, u "T_FLOAT"), (1, u "T_DOUBLE"), (1, u "T_BYTE"), (1, u "T_SHORT"), (1, u "T_INT"), (1, u "T_LONG"), (1, u "SOFT_MAX_ARRAY_LENGTH")] 83

def k16m0 : Method := { name := "<init>", desc := "()V", sig := { parameters := [], returnType := none }, accessFlags := 2, code := none }
/-- jdk/internal/util/ArraysSupport -/
def k16 : Class := { plain "jdk/internal/util/ArraysSupport" (some 0) with
  accessFlags := 33
  interfaces := #[]
  cf := some (fileOf pool16 21 #[] #[{ accessFlags := 2, nameIndex := 9, descriptorIndex := 19, attributes := #[] }] 33 16 #[] #[{ accessFlags := 24, nameIndex := 28, descriptorIndex := 29, attributes := #[] }, { accessFlags := 26, nameIndex := 38, descriptorIndex := 39, attributes := #[] }, { accessFlags := 25, nameIndex := 121, descriptorIndex := 25, attributes := #[] }, { accessFlags := 25, nameIndex := 131, descriptorIndex := 25, attributes := #[] }, { accessFlags := 25, nameIndex := 137, descriptorIndex := 25, attributes := #[] }, { accessFlags := 25, nameIndex := 143, descriptorIndex := 25, attributes := #[] }, { accessFlags := 25, nameIndex := 53, descriptorIndex := 25, attributes := #[] }, { accessFlags := 25, nameIndex := 24, descriptorIndex := 25, attributes := #[] }, { accessFlags := 25, nameIndex := 162, descriptorIndex := 25, attributes := #[] }, { accessFlags := 25, nameIndex := 187, descriptorIndex := 25, attributes := #[] }, { accessFlags := 26, nameIndex := 48, descriptorIndex := 25, attributes := #[] }, { accessFlags := 25, nameIndex := 277, descriptorIndex := 25, attributes := #[] }, { accessFlags := 25, nameIndex := 280, descriptorIndex := 25, attributes := #[] }, { accessFlags := 25, nameIndex := 282, descriptorIndex := 25, attributes := #[] }, { accessFlags := 25, nameIndex := 284, descriptorIndex := 25, attributes := #[] }, { accessFlags := 25, nameIndex := 286, descriptorIndex := 25, attributes := #[] }, { accessFlags := 25, nameIndex := 288, descriptorIndex := 25, attributes := #[] }, { accessFlags := 25, nameIndex := 290, descriptorIndex := 25, attributes := #[] }, { accessFlags := 25, nameIndex := 292, descriptorIndex := 25, attributes := #[] }, { accessFlags := 26, nameIndex := 108, descriptorIndex := 109, attributes := #[] }, { accessFlags := 25, nameIndex := 294, descriptorIndex := 25, attributes := #[] }])
  fields := #[{ name := "U", type := (.object "jdk/internal/misc/Unsafe"), accessFlags := 24, slot := 0, constantValue := 0 }, { name := "BIG_ENDIAN", type := .boolean, accessFlags := 26, slot := 1, constantValue := 0 }, { name := "LOG2_ARRAY_BOOLEAN_INDEX_SCALE", type := .int, accessFlags := 25, slot := 2, constantValue := 0 }, { name := "LOG2_ARRAY_BYTE_INDEX_SCALE", type := .int, accessFlags := 25, slot := 3, constantValue := 0 }, { name := "LOG2_ARRAY_CHAR_INDEX_SCALE", type := .int, accessFlags := 25, slot := 4, constantValue := 0 }, { name := "LOG2_ARRAY_SHORT_INDEX_SCALE", type := .int, accessFlags := 25, slot := 5, constantValue := 0 }, { name := "LOG2_ARRAY_INT_INDEX_SCALE", type := .int, accessFlags := 25, slot := 6, constantValue := 0 }, { name := "LOG2_ARRAY_LONG_INDEX_SCALE", type := .int, accessFlags := 25, slot := 7, constantValue := 0 }, { name := "LOG2_ARRAY_FLOAT_INDEX_SCALE", type := .int, accessFlags := 25, slot := 8, constantValue := 0 }, { name := "LOG2_ARRAY_DOUBLE_INDEX_SCALE", type := .int, accessFlags := 25, slot := 9, constantValue := 0 }, { name := "LOG2_BYTE_BIT_SIZE", type := .int, accessFlags := 26, slot := 10, constantValue := 0 }, { name := "T_BOOLEAN", type := .int, accessFlags := 25, slot := 11, constantValue := 0 }, { name := "T_CHAR", type := .int, accessFlags := 25, slot := 12, constantValue := 0 }, { name := "T_FLOAT", type := .int, accessFlags := 25, slot := 13, constantValue := 0 }, { name := "T_DOUBLE", type := .int, accessFlags := 25, slot := 14, constantValue := 0 }, { name := "T_BYTE", type := .int, accessFlags := 25, slot := 15, constantValue := 0 }, { name := "T_SHORT", type := .int, accessFlags := 25, slot := 16, constantValue := 0 }, { name := "T_INT", type := .int, accessFlags := 25, slot := 17, constantValue := 0 }, { name := "T_LONG", type := .int, accessFlags := 25, slot := 18, constantValue := 0 }, { name := "JLA", type := (.object "jdk/internal/access/JavaLangAccess"), accessFlags := 26, slot := 19, constantValue := 0 }, { name := "SOFT_MAX_ARRAY_LENGTH", type := .int, accessFlags := 25, slot := 20, constantValue := 0 }]
  methods := #[k16m0]
  instanceTypes := #[]
  staticTypes := #[(.object "jdk/internal/misc/Unsafe"), .boolean, .int, .int, .int, .int, .int, .int, .int, .int, .int, .int, .int, .int, .int, .int, .int, .int, .int, (.object "jdk/internal/access/JavaLangAccess"), .int]
  resolved := Array.replicate 378 none
  statics := none }

def pool17 : Array CpInfo := pool [(1, u "java/lang/Cloneable"), (0, .class_ 1), (0, u "java/lang/Object"), (0, .class_ 3)] 3

/-- java/lang/Cloneable -/
def k17 : Class := { plain "java/lang/Cloneable" (some 0) with
  accessFlags := 1537
  interfaces := #[]
  cf := some (fileOf pool17 2 #[] #[] 1537 4 #[] #[])
  fields := #[]
  methods := #[]
  instanceTypes := #[]
  staticTypes := #[]
  resolved := Array.replicate 8 none
  statics := none }

/-- the primitive byte -/
def k18 : Class := { plain "byte" none with kind := .primitive 'B', accessFlags := 0x411 }
/-- [B -/
def k19 : Class := { plain "[B" (some 0) with kind := .array 18 .byte, interfaces := #[17, 2], accessFlags := 1041 }

/-- the primitive char -/
def k20 : Class := { plain "char" none with kind := .primitive 'C', accessFlags := 0x411 }
/-- [C -/
def k21 : Class := { plain "[C" (some 0) with kind := .array 20 .char, interfaces := #[17, 2], accessFlags := 1041 }

/-- the primitive int -/
def k22 : Class := { plain "int" none with kind := .primitive 'I', accessFlags := 0x411 }
/-- [I -/
def k23 : Class := { plain "[I" (some 0) with kind := .array 22 .int, interfaces := #[17, 2], accessFlags := 1041 }

def heap : Heap := #[{ cls := 7, slots := #[.long 0, .int 1, .null, .int 0, .null, .int 0, .int 0], vm := .statics 7 },
  { cls := 13, slots := #[.ref 3, .ref 4, .ref 5, .ref 6, .ref 7, .ref 8, .ref 9, .ref 10, .ref 11, .ref 12, .ref 13, .ref 14, .ref 15, .ref 16, .ref 17, .ref 18, .ref 19, .ref 20, .null], vm := .statics 13 },
  { cls := 15, slots := #[.null, .null, .null], vm := .statics 15 },
  { cls := 13, slots := #[.null, .int 0, .int 0], vm := .none },
  { cls := 13, slots := #[.null, .int 1, .int 0], vm := .none },
  { cls := 13, slots := #[.null, .int 2, .int 0], vm := .none },
  { cls := 13, slots := #[.null, .int 3, .int 0], vm := .none },
  { cls := 13, slots := #[.null, .int 4, .int 0], vm := .none },
  { cls := 13, slots := #[.null, .int 5, .int 0], vm := .none },
  { cls := 13, slots := #[.null, .int 6, .int 0], vm := .none },
  { cls := 13, slots := #[.null, .int 7, .int 0], vm := .none },
  { cls := 13, slots := #[.null, .int 8, .int 0], vm := .none },
  { cls := 13, slots := #[.null, .int 9, .int 0], vm := .none },
  { cls := 13, slots := #[.null, .int 10, .int 0], vm := .none },
  { cls := 13, slots := #[.null, .int 11, .int 0], vm := .none },
  { cls := 13, slots := #[.null, .int 12, .int 0], vm := .none },
  { cls := 13, slots := #[.null, .int 13, .int 0], vm := .none },
  { cls := 13, slots := #[.null, .int 14, .int 0], vm := .none },
  { cls := 13, slots := #[.null, .int 15, .int 0], vm := .none },
  { cls := 13, slots := #[.null, .int 16, .int 0], vm := .none },
  { cls := 13, slots := #[.null, .int 17, .int 0], vm := .none }]
def classes : Array Class := #[k0, k1, k2, k3, k4, k5, k6, k7, k8, k9, k10, k11, k12, k13, k14, k15, k16, k17, k18, k19, k20, k21, k22, k23]
def interned : List (Array UInt16 × Addr) := []
def slotsUsed : Nat := 83
def theMethod : MethodId := ⟨1, 3⟩
def args0 : Array Value := #[.int 1, .int 65, .int 2, .int 7]
def aboutOver (below : List Frame) : State where
  vm := { classes := classes, interned := interned.toArray }
  heap := heap
  slotsUsed := slotsUsed
  threads := #[{ frames := .invoking theMethod args0 :: below }]
def below0 : List Frame := [.native { method := ⟨0, 0⟩, args := #[] }]
def about1 : State := aboutOver below0
def p0 : Program := .bare "" "" ""
def e0 : Env := launch0.env 0 0 0
theorem w_frames : about1.frames = Frame.invoking theMethod args0 :: below0 := rfl
set_option maxRecDepth 65536 in
theorem w_args : argsFit about1.vm theMethod args0 = true := by decide +kernel
set_option maxRecDepth 65536 in
theorem w_heap : heapFits about1 = true := by decide +kernel
set_option maxRecDepth 65536 in
theorem w_runnable : about1.curStatus? = some .runnable := by decide +kernel
set_option maxRecDepth 65536 in
theorem w_alone : about1.alone = true := by decide +kernel
set_option maxRecDepth 65536 in
theorem w_named : about1.methodNamed? x = some theMethod := by decide +kernel
set_option maxRecDepth 65536 in
theorem w_hears : about1.hears theMethod below0 = true := by decide +kernel
set_option maxRecDepth 65536 in
theorem w_ripe : about1.ripe theMethod args0 below0 = true := by decide +kernel
theorem w_running : about1.status = .running := rfl
set_option maxRecDepth 65536 in
theorem w_room : about1.hasRoom e0.platform room_1 = true :=
  launch0.hasRoom_least _ room_1 (by decide +kernel) (by decide +kernel) (by decide +kernel) (by decide +kernel) (by decide +kernel) (by decide +kernel)
theorem allAtoms_all (ts : List Jvm.Cond) (a : Array Jvm.Value) (st : Jvm.State) : (allAtoms ts).before a st = ts.all (fun c => c.before a st) := by
  induction ts with
  | nil => rfl
  | cons c t ih =>
    show (Jvm.Cond.and c (allAtoms t)).before a st = _
    rw [Jvm.Cond.before_and, ih, List.all_cons]
def words1 : List Jvm.Cond := Jvm.Cond.code x code maxLocals ret :: tables_1
/-- a 'code' word, met by the world's own term for the bytes: nothing is compared byte by byte -/
theorem code_word {y : MethodName} {bytes : ByteArray} {mx : Nat} {rt : Option FieldType} {a : Array Value} {s : State} {m : MethodId} {meth : Method} {c : Code} (h1 : s.methodNamed? y = some m) (h2 : s.vm.method? m = some meth) (h3 : meth.code = some c) (h4 : c.code = bytes)
    (h5 : (c.maxLocals == mx && c.exceptionTable.isEmpty && decide (c.maxStack ≤ mostOperands) && decide (meth.sig.returnType = rt) && !meth.locks && decide (parseMethodDescriptor y.desc = some meth.sig)) = true) : (Jvm.Cond.code y bytes mx rt).before a s = true := by
  simp only [Bool.and_eq_true, beq_iff_eq, Bool.not_eq_true', decide_eq_true_eq] at h5
  obtain ⟨⟨⟨⟨⟨g1, g2⟩, g3⟩, g4⟩, g5⟩, g6⟩ := h5
  simp [Cond.before, Cond.holds, Cond.value, h1, h2, h3, h4, g1, g2, g3, g4, g5, g6]
def isCode : Jvm.Cond → Bool
  | .code _ _ _ _ => true
  | _ => false
theorem all_split {L : List Jvm.Cond} {P : Jvm.Cond → Bool} (h1 : L.all (fun c => isCode c || P c) = true) (h2 : ∀ c ∈ L.filter isCode, P c = true) : L.all P = true := by
  refine List.all_eq_true.mpr fun c hc => ?_
  have h := List.all_eq_true.mp h1 c hc
  rcases Bool.eq_false_or_eq_true (isCode c) with hi | hi
  · exact h2 c (List.mem_filter.mpr ⟨hc, hi⟩)
  · simpa [hi] using h
set_option maxRecDepth 65536 in
theorem w_c0 : (Jvm.Cond.code x code maxLocals ret).before args0 about1 = true := code_word (m := ⟨1, 3⟩) (meth := k1m3) (c := k1c3) (by decide +kernel) rfl rfl rfl (by decide +kernel)
set_option maxRecDepth 65536 in
theorem w_c1 : (Jvm.Cond.code ({ cls := "com/example/stubwright/stubwright/idl/TokenIsKeywordPinLaw", name := "mk", desc := "(ICC)Ljava/lang/String;" } : Jvm.MethodName) method_3_code (3 : Nat) (Option.some (Jvm.ClassFile.FieldType.object "java/lang/String"))).before args0 about1 = true := code_word (m := ⟨1, 2⟩) (meth := k1m2) (c := k1c2) (by decide +kernel) rfl rfl rfl (by decide +kernel)
set_option maxRecDepth 65536 in
theorem w_c2 : (Jvm.Cond.code ({ cls := "java/lang/String", name := "<init>", desc := "([C)V" } : Jvm.MethodName) jdk_42_method_3_code (2 : Nat) (Option.none : Option Jvm.ClassFile.FieldType)).before args0 about1 = true := code_word (m := ⟨7, 1⟩) (meth := k7m1) (c := k7c1) (by decide +kernel) rfl rfl rfl (by decide +kernel)
set_option maxRecDepth 65536 in
theorem w_c3 : (Jvm.Cond.code ({ cls := "java/lang/String", name := "<init>", desc := "([CIILjava/lang/Void;)V" } : Jvm.MethodName) jdk_42_method_149_code (6 : Nat) (Option.none : Option Jvm.ClassFile.FieldType)).before args0 about1 = true := code_word (m := ⟨7, 3⟩) (meth := k7m3) (c := k7c3) (by decide +kernel) rfl rfl rfl (by decide +kernel)
set_option maxRecDepth 65536 in
theorem w_c4 : (Jvm.Cond.code ({ cls := "java/lang/Object", name := "<init>", desc := "()V" } : Jvm.MethodName) object_method_1_code (1 : Nat) (Option.none : Option Jvm.ClassFile.FieldType)).before args0 about1 = true := code_word (m := ⟨0, 0⟩) (meth := k0m0) (c := k0c0) (by decide +kernel) rfl rfl rfl (by decide +kernel)
set_option maxRecDepth 65536 in
theorem w_c5 : (Jvm.Cond.code ({ cls := "java/lang/StringUTF16", name := "compress", desc := "([CII)[B" } : Jvm.MethodName) jdk_52_method_16_code (6 : Nat) (Option.some (Jvm.ClassFile.FieldType.array Jvm.ClassFile.FieldType.byte))).before args0 about1 = true := code_word (m := ⟨8, 2⟩) (meth := k8m2) (c := k8c2) (by decide +kernel) rfl rfl rfl (by decide +kernel)
set_option maxRecDepth 65536 in
theorem w_c6 : (Jvm.Cond.code ({ cls := "java/lang/StringUTF16", name := "compress", desc := "([CI[BII)I" } : Jvm.MethodName) jdk_52_method_21_code (7 : Nat) (Option.some Jvm.ClassFile.FieldType.int)).before args0 about1 = true := code_word (m := ⟨8, 3⟩) (meth := k8m3) (c := k8c3) (by decide +kernel) rfl rfl rfl (by decide +kernel)
set_option maxRecDepth 65536 in
theorem w_c7 : (Jvm.Cond.code ({ cls := "java/lang/StringUTF16", name := "coderFromArrayLen", desc := "([BI)B" } : Jvm.MethodName) jdk_52_method_15_code (2 : Nat) (Option.some Jvm.ClassFile.FieldType.byte)).before args0 about1 = true := code_word (m := ⟨8, 1⟩) (meth := k8m1) (c := k8c1) (by decide +kernel) rfl rfl rfl (by decide +kernel)
set_option maxRecDepth 65536 in
theorem w_c8 : (Jvm.Cond.code ({ cls := "com/example/stubwright/stubwright/SourcePosition", name := "<init>", desc := "(Ljava/lang/String;II)V" } : Jvm.MethodName) prog_4_method_1_code (4 : Nat) (Option.none : Option Jvm.ClassFile.FieldType)).before args0 about1 = true := code_word (m := ⟨9, 0⟩) (meth := k9m0) (c := k9c0) (by decide +kernel) rfl rfl rfl (by decide +kernel)
set_option maxRecDepth 65536 in
theorem w_c9 : (Jvm.Cond.code ({ cls := "java/util/Objects", name := "requireNonNull", desc := "(Ljava/lang/Object;Ljava/lang/String;)Ljava/lang/Object;" } : Jvm.MethodName) jdk_31_method_11_code (2 : Nat) (Option.some (Jvm.ClassFile.FieldType.object "java/lang/Object"))).before args0 about1 = true := code_word (m := ⟨10, 1⟩) (meth := k10m1) (c := k10c1) (by decide +kernel) rfl rfl rfl (by decide +kernel)
set_option maxRecDepth 65536 in
theorem w_c10 : (Jvm.Cond.code ({ cls := "com/example/stubwright/stubwright/idl/TokenIsKeywordPinLaw", name := "kindOf", desc := "(I)Lcom/example/stubwright/stubwright/idl/Token$Kind;" } : Jvm.MethodName) method_2_code (1 : Nat) (Option.some (Jvm.ClassFile.FieldType.object "com/example/stubwright/stubwright/idl/Token$Kind"))).before args0 about1 = true := code_word (m := ⟨1, 1⟩) (meth := k1m1) (c := k1c1) (by decide +kernel) rfl rfl rfl (by decide +kernel)
set_option maxRecDepth 65536 in
theorem w_c11 : (Jvm.Cond.code ({ cls := "com/example/stubwright/stubwright/idl/Token", name := "<init>", desc := "(Lcom/example/stubwright/stubwright/idl/Token$Kind;Ljava/lang/String;Lcom/example/stubwright/stubwright/SourcePosition;)V" } : Jvm.MethodName) prog_36_method_1_code (4 : Nat) (Option.none : Option Jvm.ClassFile.FieldType)).before args0 about1 = true := code_word (m := ⟨11, 0⟩) (meth := k11m0) (c := k11c0) (by decide +kernel) rfl rfl rfl (by decide +kernel)
set_option maxRecDepth 65536 in
theorem w_c12 : (Jvm.Cond.code ({ cls := "com/example/stubwright/stubwright/idl/Token", name := "<init>", desc := "(Lcom/example/stubwright/stubwright/idl/Token$Kind;Ljava/lang/String;Lcom/example/stubwright/stubwright/SourcePosition;Z)V" } : Jvm.MethodName) prog_36_method_2_code (5 : Nat) (Option.none : Option Jvm.ClassFile.FieldType)).before args0 about1 = true := code_word (m := ⟨11, 1⟩) (meth := k11m1) (c := k11c1) (by decide +kernel) rfl rfl rfl (by decide +kernel)
set_option maxRecDepth 65536 in
theorem w_c13 : (Jvm.Cond.code ({ cls := "com/example/stubwright/stubwright/idl/Token", name := "isKeyword", desc := "(Ljava/lang/String;)Z" } : Jvm.MethodName) prog_36_method_10_code (2 : Nat) (Option.some Jvm.ClassFile.FieldType.boolean)).before args0 about1 = true := code_word (m := ⟨11, 2⟩) (meth := k11m2) (c := k11c2) (by decide +kernel) rfl rfl rfl (by decide +kernel)
set_option maxRecDepth 65536 in
theorem w_c14 : (Jvm.Cond.code ({ cls := "java/lang/String", name := "equals", desc := "(Ljava/lang/Object;)Z" } : Jvm.MethodName) jdk_42_method_66_code (3 : Nat) (Option.some Jvm.ClassFile.FieldType.boolean)).before args0 about1 = true := code_word (m := ⟨7, 2⟩) (meth := k7m2) (c := k7c2) (by decide +kernel) rfl rfl rfl (by decide +kernel)
set_option maxRecDepth 65536 in
theorem w_c15 : (Jvm.Cond.code ({ cls := "java/lang/StringLatin1", name := "equals", desc := "([B[B)Z" } : Jvm.MethodName) jdk_43_method_13_code (3 : Nat) (Option.some Jvm.ClassFile.FieldType.boolean)).before args0 about1 = true := code_word (m := ⟨14, 1⟩) (meth := k14m1) (c := k14c1) (by decide +kernel) rfl rfl rfl (by decide +kernel)
def codes1 : List Jvm.Cond := [Jvm.Cond.code x code maxLocals ret, Jvm.Cond.code ({ cls := "com/example/stubwright/stubwright/idl/TokenIsKeywordPinLaw", name := "mk", desc := "(ICC)Ljava/lang/String;" } : Jvm.MethodName) method_3_code (3 : Nat) (Option.some (Jvm.ClassFile.FieldType.object "java/lang/String")), Jvm.Cond.code ({ cls := "java/lang/String", name := "<init>", desc := "([C)V" } : Jvm.MethodName) jdk_42_method_3_code (2 : Nat) (Option.none : Option Jvm.ClassFile.FieldType), Jvm.Cond.code ({ cls := "java/lang/String", name := "<init>", desc := "([CIILjava/lang/Void;)V" } : Jvm.MethodName) jdk_42_method_149_code (6 : Nat) (Option.none : Option Jvm.ClassFile.FieldType), Jvm.Cond.code ({ cls := "java/lang/Object", name := "<init>", desc := "()V" } : Jvm.MethodName) object_method_1_code (1 : Nat) (Option.none : Option Jvm.ClassFile.FieldType), Jvm.Cond.code ({ cls := "java/lang/StringUTF16", name := "compress", desc := "([CII)[B" } : Jvm.MethodName) jdk_52_method_16_code (6 : Nat) (Option.some (Jvm.ClassFile.FieldType.array Jvm.ClassFile.FieldType.byte)), Jvm.Cond.code ({ cls := "java/lang/StringUTF16", name := "compress", desc := "([CI[BII)I" } : Jvm.MethodName) jdk_52_method_21_code (7 : Nat) (Option.some Jvm.ClassFile.FieldType.int), Jvm.Cond.code ({ cls := "java/lang/StringUTF16", name := "coderFromArrayLen", desc := "([BI)B" } : Jvm.MethodName) jdk_52_method_15_code (2 : Nat) (Option.some Jvm.ClassFile.FieldType.byte), Jvm.Cond.code ({ cls := "com/example/stubwright/stubwright/SourcePosition", name := "<init>", desc := "(Ljava/lang/String;II)V" } : Jvm.MethodName) prog_4_method_1_code (4 : Nat) (Option.none : Option Jvm.ClassFile.FieldType), Jvm.Cond.code ({ cls := "java/util/Objects", name := "requireNonNull", desc := "(Ljava/lang/Object;Ljava/lang/String;)Ljava/lang/Object;" } : Jvm.MethodName) jdk_31_method_11_code (2 : Nat) (Option.some (Jvm.ClassFile.FieldType.object "java/lang/Object")), Jvm.Cond.code ({ cls := "com/example/stubwright/stubwright/idl/TokenIsKeywordPinLaw", name := "kindOf", desc := "(I)Lcom/example/stubwright/stubwright/idl/Token$Kind;" } : Jvm.MethodName) method_2_code (1 : Nat) (Option.some (Jvm.ClassFile.FieldType.object "com/example/stubwright/stubwright/idl/Token$Kind")), Jvm.Cond.code ({ cls := "com/example/stubwright/stubwright/idl/Token", name := "<init>", desc := "(Lcom/example/stubwright/stubwright/idl/Token$Kind;Ljava/lang/String;Lcom/example/stubwright/stubwright/SourcePosition;)V" } : Jvm.MethodName) prog_36_method_1_code (4 : Nat) (Option.none : Option Jvm.ClassFile.FieldType), Jvm.Cond.code ({ cls := "com/example/stubwright/stubwright/idl/Token", name := "<init>", desc := "(Lcom/example/stubwright/stubwright/idl/Token$Kind;Ljava/lang/String;Lcom/example/stubwright/stubwright/SourcePosition;Z)V" } : Jvm.MethodName) prog_36_method_2_code (5 : Nat) (Option.none : Option Jvm.ClassFile.FieldType), Jvm.Cond.code ({ cls := "com/example/stubwright/stubwright/idl/Token", name := "isKeyword", desc := "(Ljava/lang/String;)Z" } : Jvm.MethodName) prog_36_method_10_code (2 : Nat) (Option.some Jvm.ClassFile.FieldType.boolean), Jvm.Cond.code ({ cls := "java/lang/String", name := "equals", desc := "(Ljava/lang/Object;)Z" } : Jvm.MethodName) jdk_42_method_66_code (3 : Nat) (Option.some Jvm.ClassFile.FieldType.boolean), Jvm.Cond.code ({ cls := "java/lang/StringLatin1", name := "equals", desc := "([B[B)Z" } : Jvm.MethodName) jdk_43_method_13_code (3 : Nat) (Option.some Jvm.ClassFile.FieldType.boolean)]
set_option maxRecDepth 65536 in
theorem codes_eq : words1.filter isCode = codes1 := rfl
theorem w_codes : ∀ c ∈ words1.filter isCode, c.before args0 about1 = true := by
  rw [codes_eq]
  intro c hc
  simp only [codes1, List.mem_cons, List.not_mem_nil, or_false] at hc
  rcases hc with rfl | rfl | rfl | rfl | rfl | rfl | rfl | rfl | rfl | rfl | rfl | rfl | rfl | rfl | rfl | rfl
  · exact w_c0
  · exact w_c1
  · exact w_c2
  · exact w_c3
  · exact w_c4
  · exact w_c5
  · exact w_c6
  · exact w_c7
  · exact w_c8
  · exact w_c9
  · exact w_c10
  · exact w_c11
  · exact w_c12
  · exact w_c13
  · exact w_c14
  · exact w_c15
set_option maxRecDepth 65536 in
theorem w_t1 : (words1.take 24).all (fun c => isCode c || c.before args0 about1) = true := by decide +kernel
set_option maxRecDepth 65536 in
theorem w_t2 : ((words1.drop 24).take 24).all (fun c => isCode c || c.before args0 about1) = true := by decide +kernel
set_option maxRecDepth 65536 in
theorem w_t3 : (((words1.drop 24).drop 24).take 24).all (fun c => isCode c || c.before args0 about1) = true := by decide +kernel
set_option maxRecDepth 65536 in
theorem w_t4 : ((((words1.drop 24).drop 24).drop 24).take 24).all (fun c => isCode c || c.before args0 about1) = true := by decide +kernel
set_option maxRecDepth 65536 in
theorem w_t5 : (((((words1.drop 24).drop 24).drop 24).drop 24).take 24).all (fun c => isCode c || c.before args0 about1) = true := by decide +kernel
set_option maxRecDepth 65536 in
theorem w_t6 : (((((words1.drop 24).drop 24).drop 24).drop 24).drop 24).all (fun c => isCode c || c.before args0 about1) = true := by decide +kernel
theorem w_tables : (allAtoms (Jvm.Cond.code x code maxLocals ret :: tables_1)).before args0 about1 = true := by
  rw [allAtoms_all]
  show words1.all (fun c => c.before args0 about1) = true
  refine all_split ?_ w_codes
  rw [← List.take_append_drop 24 words1, List.all_append, w_t1, ← List.take_append_drop 24 (words1.drop 24), List.all_append, w_t2, ← List.take_append_drop 24 ((words1.drop 24).drop 24), List.all_append, w_t3, ← List.take_append_drop 24 (((words1.drop 24).drop 24).drop 24), List.all_append, w_t4, ← List.take_append_drop 24 ((((words1.drop 24).drop 24).drop 24).drop 24), List.all_append, w_t5, w_t6]
  rfl
set_option maxRecDepth 65536 in
theorem w_rest : rest_1_c.before args0 about1 = true := by decide +kernel
set_option maxRecDepth 65536 in
theorem w_case : (Jvm.Cond.and given_1 narrow_1).before args0 about1 = true := by decide +kernel
set_option maxRecDepth 65536 in
theorem w_consts : constsHeld consts_1 about1 := Jvm.Lit.constsHeldB_iff.mp (by decide +kernel)
theorem w_applies : (headSpec (Jvm.Cond.code x code maxLocals ret :: tables_1) room_1).applies x e0.platform about1 = true :=
  (Spec.applies_iff w_frames).mpr ⟨w_running, w_runnable, w_alone, w_named, w_hears, w_ripe, w_room, w_tables⟩
theorem atStart : AtStart classFile x code maxLocals ret World_1 tables_1 room_1 Calls_1 rest_1 Pre_1 launch0 p0 e0 about1 theMethod args0 below0 :=
  ⟨lists_1, trivial, launch0.admits_env _ _ _, launch0.least_env, fairChoices_fair.cas, fairChoices_fair.clock, w_frames, w_args, w_heap, w_applies, ⟨w_consts, trivial⟩, w_rest, w_case⟩
end start1
theorem witness_1 : WitnessClaimed_1 := ⟨start1.p0, start1.e0, start1.about1, start1.theMethod, start1.args0, start1.below0, start1.atStart⟩
end Jvm.Pilot.@@N@@
