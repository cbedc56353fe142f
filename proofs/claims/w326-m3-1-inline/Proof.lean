import JvmDerived
import JvmDerived.Pilot.@@N@@Statement
import JvmDerived.Pilot.@@N@@Code
set_option linter.unusedVariables false
set_option linter.unusedSimpArgs false
namespace Jvm.Own
open Jvm Jvm.ClassFile Sem Op Lib Jvm.Free Jvm.Stand Jvm.LawKit Jvm.RoadKit Bundle
section Base
variable {p : Program} {l : Launch} {e : Env} {R : Room} {s : State} {m : MethodId} {args : Array Value} {below : List Frame} {meth : Method} {c : Code} {T : State} {locs : List Loc} {cells slots : Nat} {Z : State} {a0 : Array Value} {h : Heap}
/-- from t the run ends, and its end is as Qf says -/
def Go (p : Program) (e : Env) (below : List Frame) (Qf : Outcome → State → Prop) (t : State) : Prop :=
  ∃ s₂ o, Steps p.tables e below t s₂ ∧ s₂.status = .running ∧ Ended s₂ below o ∧ Qf o s₂
theorem Go.step {Qf : Outcome → State → Prop} {t t' : State} (k : ∀ u, Steps p.tables e below t' u → Steps p.tables e below t u) (h : Go p e below Qf t') : Go p e below Qf t := by
  obtain ⟨s₂, o, h1, h2⟩ := h
  exact ⟨s₂, o, k _ h1, h2⟩
theorem own_join {Qf : Outcome → State → Prop} {t t' : State} (h : Go p e below Qf t → Go p e below Qf t') (k : Go p e below Qf t) : Go p e below Qf t' := h k
theorem own_joinA {α : Type} {P : α → Prop} {Qf : Outcome → State → Prop} {t : α → State} {t' : State} (h : (∀ v, P v → Go p e below Qf (t v)) → Go p e below Qf t') (k : ∀ v, P v → Go p e below Qf (t v)) : Go p e below Qf t' := h k
theorem own_top {Qf : Outcome → State → Prop} {pc : Nat} {Ls : Array Slot} {rest : List Value} {a b : Value} (h : a = b) (k : Go p e below Qf (T.setTop (mkF m pc Ls (b :: rest)))) : Go p e below Qf (T.setTop (mkF m pc Ls (a :: rest))) := by subst h; exact k
/-- the end of a narrow walk -/
def QN (s : State) (rm : Room) (Q : Option Value → Heap → List Loc → Prop) (o : Outcome) (U' : State) : Prop := ∃ v L, o = .returned v ∧ Q v U'.heap L ∧ FrameEnd s o U' L rm.cells rm.slots
abbrev CN (l : Launch) (Z : State) (y : MethodName) (ws : List Jvm.Cond) (rm : Room) (as : Array Value) (h0 : Heap) (Q : Option Value → Heap → List Loc → Prop) : Prop :=
  MetFree l y (head1 ws rm) (fun a U => a = as ∧ Z.Warmed39 U.vm ∧ U.heap = h0) (fun _ _ _ _ _ => True) (fun _ U o U' => ∃ v L, o = .returned v ∧ Q v U'.heap L ∧ FrameEnd U o U' L rm.cells rm.slots)
theorem CN.of {y : MethodName} {bytes : ByteArray} {maxL : Nat} {ret : Option FieldType} {ws : List Jvm.Cond} {rm : Room} {as : Array Value} {h0 : Heap} {Q : Option Value → Heap → List Loc → Prop} {L0 : Array Slot}
    (hp : plainFor y = true) (ef : ∀ m, entryFrame m as maxL = mkF m 0 L0 [])
    (body : ∀ (p : Program) (e : Env) (s : State) (m : MethodId) (below : List Frame) (meth : Method) (c : Code) (s₁ : State), p.tables.exec = Jvm.exec → c.code = bytes → c.maxLocals = maxL → meth.sig.returnType = ret → meth.locks = false → Z.Warmed39 s.vm → s.vm.findClass y.cls = some m.cls → meth.name = y.name → Stand p l e rm s m as below meth c s₁ [] 0 0 → s₁.heap = h0 → Go p e below (QN s rm Q) (s₁.setTop (mkF m 0 L0 []))) :
    CN l Z y (Jvm.Cond.code y bytes maxL ret :: ws) rm as h0 Q := by
  refine MetFree.of_bodySF hp hisR ?_
  intro p e s m args below meth c s₁ Bd hml0 hP hK
  obtain ⟨rfl, hZ, hh⟩ := hP
  have q := body p e s m below meth c s₁ Bd.exec Bd.bytes hml0 Bd.returns Bd.notSynchronized hZ (findClass_of_methodNamed Bd.named) (name_of_methodNamed Bd.named Bd.method).1 (Stand.of_body Bd) (by rw [← hh, Bd.state]; rfl)
  rw [← ef m] at q
  exact q
theorem Go.ret {Q : Option Value → Heap → List Loc → Prop} {rm : Room} {t : State} (X : Stand p l e R s m args below meth c T locs cells slots) (hlk : meth.locks = false) (v : Option Value) (hv : meth.sig.returnType = none → v = none) (hc : cells ≤ rm.cells) (hs : slots ≤ rm.slots) (q : Q v T.heap locs)
    (st : ∀ fs, (∀ (f : JFrame) (acts : List Action), f.method = m → f.locked = none → f.entered = [] → (doReturn e (T.setTop f) acts v).1 = T.setFrames fs) → Steps p.tables e below t (T.setFrames fs)) : Go p e below (QN s rm Q) t := by
  obtain ⟨fs, hr, hrun, hended, hW, hsame⟩ := X.leave (v := v) hv hlk
  exact ⟨_, _, st fs hr, hrun, hended, v, locs, rfl, q, ⟨v, rfl⟩, hW, hsame.mono hc hs⟩
/-- a value comes back -/
theorem Go.retV {Q : Option Value → Heap → List Loc → Prop} {rm : Room} (X : Stand p l e R s m args below meth c T locs cells slots) (hx : p.tables.exec = Jvm.exec) (hlk : meth.locks = false) {pc : Nat} {Ls : Array Slot} {w : Value} {t : FieldType} {i : Instr} {rest : List Value} (hret : meth.sig.returnType = some t) (hn : narrow t w = w)
    (hi : (i = .ireturn ∧ (t = .int ∨ t = .boolean ∨ t = .byte ∨ t = .char ∨ t = .short) ∧ ∃ z, w = .int z) ∨ (i = .lreturn ∧ t = .long ∧ ∃ z, w = .long z) ∨ (i = .dreturn ∧ t = .double ∧ ∃ z, w = .double z) ∨ (i = .freturn ∧ t = .float ∧ ∃ z, w = .float z) ∨ (i = .areturn ∧ t.isReference = true ∧ w.isRef = true))
    (hd : decode c.code pc = .ok (i, 1)) (hc : cells ≤ rm.cells) (hs : slots ≤ rm.slots) (q : Q (some w) T.heap locs) : Go p e below (QN s rm Q) (T.setTop (mkF m pc Ls (w :: rest))) :=
  Go.ret X hlk (some w) (fun h => by rw [hret] at h; cases h) hc hs q fun fs hr => retOut X hx hret hn hi hd hr
/-- nothing comes back -/
theorem Go.ret0 {Q : Option Value → Heap → List Loc → Prop} {rm : Room} (X : Stand p l e R s m args below meth c T locs cells slots) (hx : p.tables.exec = Jvm.exec) (hlk : meth.locks = false) {pc : Nat} {Ls : Array Slot} (hret : meth.sig.returnType = none)
    (hd : decode c.code pc = .ok (.return_, 1)) (hc : cells ≤ rm.cells) (hs : slots ≤ rm.slots) (q : Q none T.heap locs) : Go p e below (QN s rm Q) (T.setTop (mkF m pc Ls [])) :=
  Go.ret X hlk none (fun _ => rfl) hc hs q fun fs hr => X.returnOut hx hret hd hr
/-- what pays a call -/
abbrev Pay (l : Launch) (R : Room) (p : Program) (e : Env) (below : List Frame) (s : State) (args : Array Value) (y : MethodName) (W : Nat) (as : Array Value) (h : Heap) (kc ks : Nat) (QQ : Option Value → Heap → List Loc → Prop) : Prop :=
  Back l R p e below s args y 3 W (fun P a => a = as ∧ P.U.heap = h ∧ P.cells + kc ≤ R.cells ∧ P.slots + ks ≤ R.slots) (fun P _ v B => ∃ L, QQ v B.U.heap L ∧ B.locs = P.locs ++ L ∧ B.cells = P.cells + kc ∧ B.slots = P.slots + ks)
theorem goS (X : Stand p l e R s m args below meth c T locs cells slots) (hx : p.tables.exec = Jvm.exec) (hZ : Z.Warmed39 s.vm) {own : String} {index : Nat} {y : MethodName} {bytes : ByteArray} {maxL : Nat} {ret : Option FieldType} (hown : s.vm.findClass own = some m.cls)
    (w1 : (Jvm.Cond.methodLink own index y).before a0 Z = true) (w2 : (Jvm.Cond.static y).before a0 Z = true) (w3 : (Jvm.Cond.initialized y.cls).before a0 Z = true) (w4 : (Jvm.Cond.code y bytes maxL ret).before a0 Z = true) (hy : y.cls ≠ "java/lang/invoke/MethodHandle" ∧ y.cls ≠ "java/lang/invoke/VarHandle")
    {W kc ks : Nat} {as : Array Value} {QQ : Option Value → Heap → List Loc → Prop} (K : Pay l R p e below s args y W as h kc ks QQ) (eT : T.heap = h) {g : JFrame} (hg : g.method = m) (hsize : g.locals.size = c.maxLocals) {argsL rest : List Value} (has : argsL.toArray = as)
    (hlen : ∀ sig, parseMethodDescriptor y.desc = some sig → argsL.length = sig.parameters.length) (hstack : g.stack = argsL.reverse ++ rest) (hW : 2 * g.monitorRoom + (rest.map fun v => v.category).sum ≤ W) (hd : decode c.code g.pc = .ok (.invokestatic index, 3)) (hc : cells + kc ≤ R.cells) (hs : slots + ks ≤ R.slots) :
    ∃ v T' L, Stand p l e R s m args below meth c T' (locs ++ L) (cells + kc) (slots + ks) ∧ QQ v T'.heap L ∧ ∀ u, Steps p.tables e below (T'.setTop { g with pc := g.pc + 3, stack := v.toList ++ rest }) u → Steps p.tables e below (T.setTop g) u := by
  obtain ⟨v, _, ⟨T', L', k', n'⟩, -, X', ⟨L, hQ, l1, y1, z1⟩, st⟩ := Jvm.LawKit.callS X hx hown (mvT hZ w1) (mvT hZ w2) (mvT hZ w3) (mvT hZ w4) hy K hg hsize hlen hstack hW hd (fun _ _ => ⟨has, eT, hc, hs⟩)
  try dsimp only [Pt.U, Pt.locs, Pt.cells, Pt.slots] at X' l1 y1 z1 st hQ
  subst l1 y1 z1
  exact ⟨v, T', L, X', hQ, st⟩
theorem goC (X : Stand p l e R s m args below meth c T locs cells slots) (hx : p.tables.exec = Jvm.exec) (hZ : Z.Warmed39 s.vm) {own : String} {index : Nat} {y : MethodName} {bytes : ByteArray} {maxL : Nat} (hown : s.vm.findClass own = some m.cls)
    (hy1 : y.name = "<init>") (w1 : (Jvm.Cond.methodLink own index y).before a0 Z = true) (w2 : (Jvm.Cond.instanceMethod y).before a0 Z = true) (w4 : (Jvm.Cond.code y bytes maxL none).before a0 Z = true) (hy : y.cls ≠ "java/lang/invoke/MethodHandle" ∧ y.cls ≠ "java/lang/invoke/VarHandle")
    {W kc ks : Nat} {as : Array Value} {QQ : Option Value → Heap → List Loc → Prop} (K : Pay l R p e below s args y W as h kc ks QQ) (eT : T.heap = h) {g : JFrame} (hg : g.method = m) (hsize : g.locals.size = c.maxLocals) {a : Addr} {argsL rest : List Value} (has : (.ref a :: argsL).toArray = as)
    (hlen : ∀ sig, parseMethodDescriptor y.desc = some sig → argsL.length = sig.parameters.length) (hstack : g.stack = argsL.reverse ++ .ref a :: rest) (hW : 2 * g.monitorRoom + (rest.map fun v => v.category).sum ≤ W) (hd : decode c.code g.pc = .ok (.invokespecial index, 3)) (hc : cells + kc ≤ R.cells) (hs : slots + ks ≤ R.slots) :
    ∃ v T' L, Stand p l e R s m args below meth c T' (locs ++ L) (cells + kc) (slots + ks) ∧ QQ v T'.heap L ∧ ∀ u, Steps p.tables e below (T'.setTop { g with pc := g.pc + 3, stack := v.toList ++ rest }) u → Steps p.tables e below (T.setTop g) u := by
  obtain ⟨v, _, ⟨T', L', k', n'⟩, -, X', ⟨L, hQ, l1, y1, z1⟩, st⟩ := X.specialBack hx hy1 hown (mvT hZ w1) (mvT hZ w2) (mvT hZ w4) hy K hg hsize (Steps.refl _) hlen hstack hW hd (fun _ _ => ⟨has, eT, hc, hs⟩)
  try dsimp only [Pt.U, Pt.locs, Pt.cells, Pt.slots] at X' l1 y1 z1 st hQ
  subst l1 y1 z1
  exact ⟨v, T', L, X', hQ, fun u k => st.trans k⟩
theorem goV (X : Stand p l e R s m args below meth c T locs cells slots) (hx : p.tables.exec = Jvm.exec) (hZ : Z.Warmed39 s.vm) {own C : String} {index : Nat} {y z : MethodName} (hown : s.vm.findClass own = some m.cls)
    (w1 : (Jvm.Cond.methodLink own index y).before a0 Z = true) (w2 : (Jvm.Cond.declares y).before a0 Z = true) (hnf : NotFace s y) (w3 : (Jvm.Cond.selects C y z).before a0 Z = true) (w4 : (Jvm.Cond.instanceMethod z).before a0 Z = true) (hy : y.cls ≠ "java/lang/invoke/MethodHandle" ∧ y.cls ≠ "java/lang/invoke/VarHandle")
    {W kc ks : Nat} {as : Array Value} {QQ : Option Value → Heap → List Loc → Prop} (K : Pay l R p e below s args z W as h kc ks QQ) (eT : T.heap = h) {a : Addr} (E : Exa Z h a C) {g : JFrame} (hg : g.method = m) (hsize : g.locals.size = c.maxLocals) {argsL rest : List Value} (has : (.ref a :: argsL).toArray = as)
    (hlen : ∀ sig, parseMethodDescriptor y.desc = some sig → argsL.length = sig.parameters.length) (hstack : g.stack = argsL.reverse ++ .ref a :: rest) (hW : 2 * g.monitorRoom + (rest.map fun v => v.category).sum ≤ W) (hd : decode c.code g.pc = .ok (.invokevirtual index, 3)) (hc : cells + kc ≤ R.cells) (hs : slots + ks ≤ R.slots) :
    ∃ v T' L, Stand p l e R s m args below meth c T' (locs ++ L) (cells + kc) (slots + ks) ∧ QQ v T'.heap L ∧ ∀ u, Steps p.tables e below (T'.setTop { g with pc := g.pc + 3, stack := v.toList ++ rest }) u → Steps p.tables e below (T.setTop g) u := by
  obtain ⟨cB, kB, q1, q2, q3⟩ := isOf hZ eT E
  obtain ⟨v, _, ⟨T', L', k', n'⟩, -, X', ⟨L, hQ, l1, y1, z1⟩, st⟩ := X.virtualBack hx hown (mvT hZ w1) (mvT hZ w2) hnf (mvT hZ w3) (mvT hZ w4) hy K q1 q3 hg hsize (Steps.refl _) hlen hstack hW hd (fun _ _ => ⟨has, eT, hc, hs⟩)
  try dsimp only [Pt.U, Pt.locs, Pt.cells, Pt.slots] at X' l1 y1 z1 st hQ
  subst l1 y1 z1
  exact ⟨v, T', L, X', hQ, fun u k => st.trans k⟩
/-- .. whose named class does not declare it -/
theorem goU (X : Stand p l e R s m args below meth c T locs cells slots) (hx : p.tables.exec = Jvm.exec) (hZ : Z.Warmed39 s.vm) {own C owner : String} {index : Nat} {y z : MethodName} (hown : s.vm.findClass own = some m.cls)
    (w1 : (Jvm.Cond.methodLink own index y).before a0 Z = true) (w5 : (Jvm.Cond.sameMethod y.cls owner y.name y.desc).before a0 Z = true) (w2 : (Jvm.Cond.declares ⟨owner, y.name, y.desc⟩).before a0 Z = true) (w3 : (Jvm.Cond.selects C y z).before a0 Z = true) (w4 : (Jvm.Cond.instanceMethod z).before a0 Z = true) (hy : owner ≠ "java/lang/invoke/MethodHandle" ∧ owner ≠ "java/lang/invoke/VarHandle")
    {W kc ks : Nat} {as : Array Value} {QQ : Option Value → Heap → List Loc → Prop} (K : Pay l R p e below s args z W as h kc ks QQ) (eT : T.heap = h) {a : Addr} (E : Exa Z h a C) {g : JFrame} (hg : g.method = m) (hsize : g.locals.size = c.maxLocals) {argsL rest : List Value} (has : (.ref a :: argsL).toArray = as)
    (hlen : ∀ sig, parseMethodDescriptor y.desc = some sig → argsL.length = sig.parameters.length) (hstack : g.stack = argsL.reverse ++ .ref a :: rest) (hW : 2 * g.monitorRoom + (rest.map fun v => v.category).sum ≤ W) (hd : decode c.code g.pc = .ok (.invokevirtual index, 3)) (hc : cells + kc ≤ R.cells) (hs : slots + ks ≤ R.slots) :
    ∃ v T' L, Stand p l e R s m args below meth c T' (locs ++ L) (cells + kc) (slots + ks) ∧ QQ v T'.heap L ∧ ∀ u, Steps p.tables e below (T'.setTop { g with pc := g.pc + 3, stack := v.toList ++ rest }) u → Steps p.tables e below (T.setTop g) u := by
  obtain ⟨cB, kB, q1, q2, q3⟩ := isOf hZ eT E
  obtain ⟨v, _, ⟨T', L', k', n'⟩, -, X', ⟨L, hQ, l1, y1, z1⟩, st⟩ := X.virtualBackUp hx hown (mvT hZ w1) (mvT hZ w5) (mvT hZ w2) hy (mvT hZ w3) (mvT hZ w4) K q1 q3 hg hsize (Steps.refl _) hlen hstack hW hd (fun _ _ => ⟨has, eT, hc, hs⟩)
  try dsimp only [Pt.U, Pt.locs, Pt.cells, Pt.slots] at X' l1 y1 z1 st hQ
  subst l1 y1 z1
  exact ⟨v, T', L, X', hQ, fun u k => st.trans k⟩
/-- a private method by invokevirtual -/
theorem goP (X : Stand p l e R s m args below meth c T locs cells slots) (hx : p.tables.exec = Jvm.exec) (hZ : Z.Warmed39 s.vm) {own C : String} {index : Nat} {y : MethodName} {bytes : ByteArray} {maxL : Nat} {ret : Option FieldType} (hown : s.vm.findClass own = some m.cls)
    (w1 : (Jvm.Cond.methodLink own index y).before a0 Z = true) (w2 : (Jvm.Cond.instanceMethod y).before a0 Z = true) (w3 : (Jvm.Cond.selects y.cls y y).before a0 Z = true) (w5 : (Jvm.Cond.privateMethod y).before a0 Z = true) (w4 : (Jvm.Cond.code y bytes maxL ret).before a0 Z = true) (hy : y.cls ≠ "java/lang/invoke/MethodHandle" ∧ y.cls ≠ "java/lang/invoke/VarHandle")
    {W kc ks : Nat} {as : Array Value} {QQ : Option Value → Heap → List Loc → Prop} (K : Pay l R p e below s args y W as h kc ks QQ) (eT : T.heap = h) {a : Addr} (E : Exa Z h a C) {g : JFrame} (hg : g.method = m) (hsize : g.locals.size = c.maxLocals) {argsL rest : List Value} (has : (.ref a :: argsL).toArray = as)
    (hlen : ∀ sig, parseMethodDescriptor y.desc = some sig → argsL.length = sig.parameters.length) (hstack : g.stack = argsL.reverse ++ .ref a :: rest) (hW : 2 * g.monitorRoom + (rest.map fun v => v.category).sum ≤ W) (hd : decode c.code g.pc = .ok (.invokevirtual index, 3)) (hc : cells + kc ≤ R.cells) (hs : slots + ks ≤ R.slots) :
    ∃ v T' L, Stand p l e R s m args below meth c T' (locs ++ L) (cells + kc) (slots + ks) ∧ QQ v T'.heap L ∧ ∀ u, Steps p.tables e below (T'.setTop { g with pc := g.pc + 3, stack := v.toList ++ rest }) u → Steps p.tables e below (T.setTop g) u := by
  obtain ⟨cq, q1, q2⟩ := E.cell
  obtain ⟨v, _, ⟨T', L', k', n'⟩, -, X', ⟨L, hQ, l1, y1, z1⟩, st⟩ := X.privateBack hx hown (mvT hZ w1) (mvT hZ w2) (mvT hZ w3) (Cond.privateMethod_at (mvP hZ w5 (args := #[]))) (mvT hZ w4) hy K hg hsize (Steps.refl _) (by rw [eT]; exact q1) q2 hlen hstack hW hd (fun _ _ => ⟨has, eT, hc, hs⟩)
  try dsimp only [Pt.U, Pt.locs, Pt.cells, Pt.slots] at X' l1 y1 z1 st hQ
  subst l1 y1 z1
  exact ⟨v, T', L, X', hQ, fun u k => st.trans k⟩
theorem lremM {g : JFrame} {target : State} (X : Stand p l e R s m args below meth c T locs cells slots) (hx : p.tables.exec = Jvm.exec) (hg : g.method = m) {x y : Int64} {rest : List Value} (hd : decode c.code g.pc = .ok (.lrem, 1)) (hs : g.stack = .long y :: .long x :: rest) (hy : y ≠ 0)
    (hr : Steps p.tables e below (T.setTop { g with pc := g.pc + 1, stack := .long (x % y) :: rest }) target) : Steps p.tables e below (T.setTop g) target :=
  XS.lrem X.here hx hg hd hs hy (by rw [lrem_mod]; exact hr)
theorem own_cat {v : Value} (h : v.isRef = true) : v.category = 1 := by cases v <;> first | rfl | (simp [Value.isRef] at h; done)
theorem own_narrow_ref {t : FieldType} {v : Value} (h : v.isRef = true) : narrow t v = v := by cases v <;> first | (simp [Value.isRef] at h; done) | (cases t <;> rfl)
theorem own_fits_refA {t : FieldType} {v : Value} (h : v.isRef = true) : fits (.array t) v = true := by cases v <;> simp_all [Value.isRef, fits]
theorem own_fits_ref {C : String} {v : Value} (h : v.isRef = true) : fits (.object C) v = true := by cases v <;> simp_all [Value.isRef, fits]
/-- what the case's words say of a static -/
theorem sta_obj {C n d K : String} (hi : (Jvm.Cond.initializedFor C n d).before args s = true ∨ ((Jvm.Cond.initialized C).before args s = true ∧ (Jvm.Cond.laysStatic C n d).before args s = true)) (hx : (Jvm.Cond.exactly (.static C n d) K).value args s none s [] = some true) :
    ∃ a, Sta s s.heap C n d (.ref a) ∧ Exa s s.heap a K ∧ (Term.static C n d).eval args s none [] s = some (.ref a) := by
  obtain ⟨a, e⟩ := exa_v hx
  exact ⟨a, Sta.start e hi, Exa.start e hx, e⟩
theorem fld_l {t : Term} {a : Addr} {C f d : String} {v : Int64} (ev : t.eval args s none [] s = some (.ref a)) (h : (Jvm.Cond.eq (.field t C f d) (.long v)).value args s none s [] = some true) : Fld s s.heap a C f d (.long v) :=
  Fld.start (by rw [← fld_at ev]; exact eqv_l (long_at v) h)
theorem fld_i {t : Term} {a : Addr} {C f d : String} {v : Int32} (ev : t.eval args s none [] s = some (.ref a)) (h : (Jvm.Cond.eq (.field t C f d) (.int v)).value args s none s [] = some true) : Fld s s.heap a C f d (.int v) :=
  Fld.start (by rw [← fld_at ev]; exact eqv_i (Term.int_eval v) h)
theorem b01_ne {P : Prop} [Decidable P] (q : P) : ¬ (if P then (1 : Int32) else 0) = 0 := by rw [if_pos q]; decide
theorem b01_eq {P : Prop} [Decidable P] (q : ¬ P) : (if P then (1 : Int32) else 0) = 0 := if_neg q
theorem b01_nar {P : Prop} [Decidable P] : narrow .boolean (.int (if P then (1 : Int32) else 0)) = .int (if P then (1 : Int32) else 0) := by split <;> rfl
end Base
end Jvm.Own
namespace Jvm.Own
open Jvm Jvm.ClassFile Sem Op Lib Jvm.Free Jvm.Stand Jvm.LawKit Jvm.RoadKit Bundle
section Wide
variable {p : Program} {l : Launch} {e : Env} {R : Room} {s : State} {m : MethodId} {args : Array Value} {below : List Frame} {meth : Method} {c : Code} {T : State} {locs : List Loc} {cells slots : Nat} {Z : State} {a0 : Array Value} {h h0 : Heap} {EL : List (String × Nat)} {vm0 : Vm} {k0 : Nat}
/-- the end of a walk that may intern -/
def QW (Z : State) (EL : List (String × Nat)) (s : State) (rm : Room) (Q : Option Value → Heap → List Loc → Prop) (o : Outcome) (U' : State) : Prop := ∃ v L, o = .returned v ∧ Q v U'.heap L ∧ CHr Z EL s.vm s.heap U'.vm U'.heap ∧ ReturnedEndW s o U' L rm.cells rm.slots
abbrev CW (l : Launch) (Z : State) (EL : List (String × Nat)) (y : MethodName) (ws : List Jvm.Cond) (rm : Room) (as : Array Value) (h0 : Heap) (Q : Option Value → Heap → List Loc → Prop) : Prop :=
  MetFree l y (head1 ws rm) (fun a U => a = as ∧ Z.Warmed39 U.vm ∧ U.heap = h0 ∧ CHv Z EL U.vm h0) (fun _ _ _ _ _ => True) (fun _ U o U' => ∃ v L, o = .returned v ∧ Q v U'.heap L ∧ CHr Z EL U.vm U.heap U'.vm U'.heap ∧ ReturnedEndW U o U' L rm.cells rm.slots)
theorem CW.of {y : MethodName} {bytes : ByteArray} {maxL : Nat} {ret : Option FieldType} {ws : List Jvm.Cond} {rm : Room} {as : Array Value} {Q : Option Value → Heap → List Loc → Prop} {L0 : Array Slot}
    (hp : plainFor y = true) (ef : ∀ m, entryFrame m as maxL = mkF m 0 L0 [])
    (body : ∀ (p : Program) (e : Env) (s : State) (m : MethodId) (below : List Frame) (meth : Method) (c : Code) (s₁ : State), p.tables.exec = Jvm.exec → c.code = bytes → c.maxLocals = maxL → meth.sig.returnType = ret → meth.locks = false → Z.Warmed39 s.vm → s.vm.findClass y.cls = some m.cls → meth.name = y.name → Stand p l e rm (s.setVm s.vm) m as below meth c s₁ [] 0 0 → s₁.heap = h0 → s.Since s.vm h0.size → h0.size ≤ h0.size → CHv Z EL s.vm h0 → s.heap = h0 → Go p e below (QW Z EL s rm Q) (s₁.setTop (mkF m 0 L0 []))) :
    CW l Z EL y (Jvm.Cond.code y bytes maxL ret :: ws) rm as h0 Q := by
  refine MetFree.of_bodySF hp hisR ?_
  intro p e s m args below meth c s₁ Bd hml0 hP hK
  obtain ⟨rfl, hZ, hh, hC⟩ := hP
  have q := body p e s m below meth c s₁ Bd.exec Bd.bytes hml0 Bd.returns Bd.notSynchronized hZ (findClass_of_methodNamed Bd.named) (name_of_methodNamed Bd.named Bd.method).1 (Stand.of_body Bd) (by rw [← hh, Bd.state]; rfl) (State.WarmedH.since (State.WarmedH.refl s) _) (Nat.le_refl _) hC hh
  rw [← ef m] at q
  exact q
theorem Go.retW {Q : Option Value → Heap → List Loc → Prop} {rm : Room} {t : State} (X : Stand p l e R (s.setVm vm0) m args below meth c T locs cells slots) (eT : T.heap = h) (hS : s.Since vm0 k0) (hk : k0 ≤ h.size) (hZ : Z.Warmed39 vm0) (hEL : EW Z a0 EL) (hh0 : s.heap = h0) (HC : CHr Z EL s.vm h0 vm0 h) (hlk : meth.locks = false) (v : Option Value) (hv : meth.sig.returnType = none → v = none) (hc : cells ≤ rm.cells) (hs : slots ≤ rm.slots) (q : Q v T.heap locs)
    (st : ∀ fs, (∀ (f : JFrame) (acts : List Action), f.method = m → f.locked = none → f.entered = [] → (doReturn e (T.setTop f) acts v).1 = T.setFrames fs) → Steps p.tables e below t (T.setFrames fs)) : Go p e below (QW Z EL s rm Q) t := by
  subst eT hh0
  obtain ⟨fs, hr, hrun, hended, hR⟩ := X.leaveW hS hk (v := v) hv hlk
  have q2 : CHr Z EL vm0 T.heap T.vm T.heap := CHv.at X hZ hEL HC.1
  exact ⟨_, _, st fs hr, hrun, hended, v, locs, rfl, q, HC.trans q2, hR.1, hR.2.1, hR.2.2.1, hR.2.2.2.mono hc hs⟩
theorem Go.retVW {Q : Option Value → Heap → List Loc → Prop} {rm : Room} (X : Stand p l e R (s.setVm vm0) m args below meth c T locs cells slots) (eT : T.heap = h) (hS : s.Since vm0 k0) (hk : k0 ≤ h.size) (hZ : Z.Warmed39 vm0) (hEL : EW Z a0 EL) (hh0 : s.heap = h0) (HC : CHr Z EL s.vm h0 vm0 h) (hx : p.tables.exec = Jvm.exec) (hlk : meth.locks = false) {pc : Nat} {Ls : Array Slot} {w : Value} {t : FieldType} {i : Instr} {rest : List Value} (hret : meth.sig.returnType = some t) (hn : narrow t w = w)
    (hi : (i = .ireturn ∧ (t = .int ∨ t = .boolean ∨ t = .byte ∨ t = .char ∨ t = .short) ∧ ∃ z, w = .int z) ∨ (i = .lreturn ∧ t = .long ∧ ∃ z, w = .long z) ∨ (i = .dreturn ∧ t = .double ∧ ∃ z, w = .double z) ∨ (i = .freturn ∧ t = .float ∧ ∃ z, w = .float z) ∨ (i = .areturn ∧ t.isReference = true ∧ w.isRef = true))
    (hd : decode c.code pc = .ok (i, 1)) (hc : cells ≤ rm.cells) (hs : slots ≤ rm.slots) (q : Q (some w) T.heap locs) : Go p e below (QW Z EL s rm Q) (T.setTop (mkF m pc Ls (w :: rest))) :=
  Go.retW X eT hS hk hZ hEL hh0 HC hlk (some w) (fun h => by rw [hret] at h; cases h) hc hs q fun fs hr => retOut X hx hret hn hi hd hr
theorem Go.ret0W {Q : Option Value → Heap → List Loc → Prop} {rm : Room} (X : Stand p l e R (s.setVm vm0) m args below meth c T locs cells slots) (eT : T.heap = h) (hS : s.Since vm0 k0) (hk : k0 ≤ h.size) (hZ : Z.Warmed39 vm0) (hEL : EW Z a0 EL) (hh0 : s.heap = h0) (HC : CHr Z EL s.vm h0 vm0 h) (hx : p.tables.exec = Jvm.exec) (hlk : meth.locks = false) {pc : Nat} {Ls : Array Slot} (hret : meth.sig.returnType = none)
    (hd : decode c.code pc = .ok (.return_, 1)) (hc : cells ≤ rm.cells) (hs : slots ≤ rm.slots) (q : Q none T.heap locs) : Go p e below (QW Z EL s rm Q) (T.setTop (mkF m pc Ls [])) :=
  Go.retW X eT hS hk hZ hEL hh0 HC hlk none (fun _ => rfl) hc hs q fun fs hr => X.returnOut hx hret hd hr
/-- a String whose value isn't set yet is no booked one -/
theorem own_safe_null {x : Addr} {k : Nat} {vm : Vm} (hal : Z.vm.Alike vm) (E : Exa Z h x "java/lang/String") (F : Fld Z h x "java/lang/String" "value" "[B" .null) (wi : (Jvm.Cond.instantiable "java/lang/String" k).before a0 Z = true) : Safe Z EL vm h x := fun B => by
  obtain ⟨p, -, u, a, -, q, -, G, rfl | rfl⟩ := B
  · obtain ⟨cell, cf, k1, i, f, e1, e2, e3, e4, e5, e6, e7⟩ := F
    cases (show h[q.sa]? = some q.sC from G.ha).symm.trans e1
    obtain ⟨cS, ⟨⟨s1, s2, s3, ⟨cv, kv, iv, s4, s4'⟩, ⟨cc, kc, ic, s5, s5'⟩, s6, s7, s8, s9, r⟩, hfS, hcS⟩, r2⟩ := G
    obtain ⟨kv', z4⟩ := ff_back (U := Wst Z vm h) hal s4
    have e8 := e2.symm.trans z4
    simp only [Option.some.injEq, Prod.mk.injEq] at e8
    rw [e8.2.2.2, s8] at e7
    cases e7
  · obtain ⟨cell, k1, e1, e2, e3, -, -⟩ := E
    cases (show h[q.sd]? = some q.SA from G.hd).symm.trans e1
    obtain ⟨cS, -, -, f, -⟩ := G
    have f : vm.findClass "[B" = some q.SA.cls := f
    rw [hal.findClass] at f
    obtain ⟨k2, q1, q2⟩ := Vm.findClass_spec f
    obtain ⟨k3, q3, q4⟩ := Vm.findClass_spec e2
    cases q1.symm.trans q3
    exact absurd (q2.symm.trans q4) (by decide)
abbrev PayW (l : Launch) (R : Room) (p : Program) (e : Env) (below : List Frame) (Z : State) (EL : List (String × Nat)) (s : State) (vm0 : Vm) (args : Array Value) (y : MethodName) (W : Nat) (as : Array Value) (h : Heap) (kc ks : Nat) (QQ : Option Value → Heap → List Loc → Prop) : Prop :=
  BackS l R p e below (s.setVm vm0) args y 3 W (fun P a => a = as ∧ P.U.heap = h ∧ P.cells + kc ≤ R.cells ∧ P.slots + ks ≤ R.slots) (fun P _ v B => ∃ L, QQ v B.U.heap L ∧ B.locs = P.locs ++ L ∧ B.cells = P.cells + kc ∧ B.slots = P.slots + ks ∧ CHr Z EL vm0 h B.U.vm B.U.heap)
/-- what stands behind a call that may intern -/
abbrev AftW (p : Program) (l : Launch) (e : Env) (R : Room) (s : State) (m : MethodId) (args : Array Value) (below : List Frame) (meth : Method) (c : Code) (T : State) (locs : List Loc) (cells slots : Nat) (Z : State) (EL : List (String × Nat)) (vm0 : Vm) (h : Heap) (own : String) (kc ks : Nat) (QQ : Option Value → Heap → List Loc → Prop) (g : JFrame) (rest : List Value) : Prop :=
  ∃ v T' L, Stand p l e R (s.setVm T'.vm) m args below meth c T' (locs ++ L) (cells + kc) (slots + ks) ∧ QQ v T'.heap L ∧ s.Since T'.vm T'.heap.size ∧ Z.Warmed39 T'.vm ∧ T'.vm.findClass own = some m.cls ∧ CHr Z EL vm0 h T'.vm T'.heap ∧ ∀ u, Steps p.tables e below (T'.setTop { g with pc := g.pc + 3, stack := v.toList ++ rest }) u → Steps p.tables e below (T.setTop g) u
theorem goSW (X : Stand p l e R (s.setVm vm0) m args below meth c T locs cells slots) (hx : p.tables.exec = Jvm.exec) (hZ : Z.Warmed39 vm0) {own : String} {index : Nat} {y : MethodName} {bytes : ByteArray} {maxL : Nat} {ret : Option FieldType} (hown : vm0.findClass own = some m.cls) (hS : s.Since vm0 k0) (hk : k0 ≤ h.size)
    (w1 : (Jvm.Cond.methodLink own index y).before a0 Z = true) (w2 : (Jvm.Cond.static y).before a0 Z = true) (w3 : (Jvm.Cond.initialized y.cls).before a0 Z = true) (w4 : (Jvm.Cond.code y bytes maxL ret).before a0 Z = true) (hy : y.cls ≠ "java/lang/invoke/MethodHandle" ∧ y.cls ≠ "java/lang/invoke/VarHandle")
    {W kc ks : Nat} {as : Array Value} {QQ : Option Value → Heap → List Loc → Prop} (K : PayW l R p e below Z EL s vm0 args y W as h kc ks QQ) (eT : T.heap = h) {g : JFrame} (hg : g.method = m) (hsize : g.locals.size = c.maxLocals) {argsL rest : List Value} (has : argsL.toArray = as)
    (hlen : ∀ sig, parseMethodDescriptor y.desc = some sig → argsL.length = sig.parameters.length) (hstack : g.stack = argsL.reverse ++ rest) (hW : 2 * g.monitorRoom + (rest.map fun v => v.category).sum ≤ W) (hd : decode c.code g.pc = .ok (.invokestatic index, 3)) (hc : cells + kc ≤ R.cells) (hs : slots + ks ≤ R.slots) :
    AftW p l e R s m args below meth c T locs cells slots Z EL vm0 h own kc ks QQ g rest := by
  subst eT
  obtain ⟨v, _, ⟨T', L', k', n'⟩, -, X', h2, gl, ⟨L, hQ, l1, y1, z1, hC⟩, st⟩ := callSS X hx hown (mvT (s := s.setVm vm0) hZ w1) (mvT (s := s.setVm vm0) hZ w2) (mvT (s := s.setVm vm0) hZ w3) (mvT (s := s.setVm vm0) hZ w4) hy K hg hsize hlen hstack hW hd (fun _ _ => ⟨has, rfl, hc, hs⟩)
  try dsimp only [Pt.U, Pt.locs, Pt.cells, Pt.slots] at X' l1 y1 z1 st hQ h2 gl hC
  subst l1 y1 z1
  obtain ⟨a1, a2, a3, a4⟩ := rebS hS hk X' h2 gl hZ hown
  exact ⟨v, T', L, a1, hQ, a2, a3, a4, hC, fun u k => st.trans k⟩
theorem goCW (X : Stand p l e R (s.setVm vm0) m args below meth c T locs cells slots) (hx : p.tables.exec = Jvm.exec) (hZ : Z.Warmed39 vm0) {own : String} {index : Nat} {y : MethodName} {bytes : ByteArray} {maxL : Nat} (hown : vm0.findClass own = some m.cls) (hS : s.Since vm0 k0) (hk : k0 ≤ h.size)
    (hy1 : y.name = "<init>") (w1 : (Jvm.Cond.methodLink own index y).before a0 Z = true) (w2 : (Jvm.Cond.instanceMethod y).before a0 Z = true) (w4 : (Jvm.Cond.code y bytes maxL none).before a0 Z = true) (hy : y.cls ≠ "java/lang/invoke/MethodHandle" ∧ y.cls ≠ "java/lang/invoke/VarHandle")
    {W kc ks : Nat} {as : Array Value} {QQ : Option Value → Heap → List Loc → Prop} (K : PayW l R p e below Z EL s vm0 args y W as h kc ks QQ) (eT : T.heap = h) {g : JFrame} (hg : g.method = m) (hsize : g.locals.size = c.maxLocals) {a : Addr} {argsL rest : List Value} (has : (.ref a :: argsL).toArray = as)
    (hlen : ∀ sig, parseMethodDescriptor y.desc = some sig → argsL.length = sig.parameters.length) (hstack : g.stack = argsL.reverse ++ .ref a :: rest) (hW : 2 * g.monitorRoom + (rest.map fun v => v.category).sum ≤ W) (hd : decode c.code g.pc = .ok (.invokespecial index, 3)) (hc : cells + kc ≤ R.cells) (hs : slots + ks ≤ R.slots) :
    AftW p l e R s m args below meth c T locs cells slots Z EL vm0 h own kc ks QQ g rest := by
  subst eT
  obtain ⟨v, _, ⟨T', L', k', n'⟩, -, X', h2, gl, ⟨L, hQ, l1, y1, z1, hC⟩, st⟩ := X.specialBackS hx hy1 hown (mvT (s := s.setVm vm0) hZ w1) (mvT (s := s.setVm vm0) hZ w2) (mvT (s := s.setVm vm0) hZ w4) hy K hg hsize (Steps.refl _) hlen hstack hW hd (fun _ _ => ⟨has, rfl, hc, hs⟩)
  try dsimp only [Pt.U, Pt.locs, Pt.cells, Pt.slots] at X' l1 y1 z1 st hQ h2 gl hC
  subst l1 y1 z1
  obtain ⟨a1, a2, a3, a4⟩ := rebS hS hk X' h2 gl hZ hown
  exact ⟨v, T', L, a1, hQ, a2, a3, a4, hC, fun u k => st.trans k⟩
theorem goVW (X : Stand p l e R (s.setVm vm0) m args below meth c T locs cells slots) (hx : p.tables.exec = Jvm.exec) (hZ : Z.Warmed39 vm0) {own C : String} {index : Nat} {y z : MethodName} (hown : vm0.findClass own = some m.cls) (hS : s.Since vm0 k0) (hk : k0 ≤ h.size)
    (w1 : (Jvm.Cond.methodLink own index y).before a0 Z = true) (w2 : (Jvm.Cond.declares y).before a0 Z = true) (hnf : NotFace (s.setVm vm0) y) (w3 : (Jvm.Cond.selects C y z).before a0 Z = true) (w4 : (Jvm.Cond.instanceMethod z).before a0 Z = true) (hy : y.cls ≠ "java/lang/invoke/MethodHandle" ∧ y.cls ≠ "java/lang/invoke/VarHandle")
    {W kc ks : Nat} {as : Array Value} {QQ : Option Value → Heap → List Loc → Prop} (K : PayW l R p e below Z EL s vm0 args z W as h kc ks QQ) (eT : T.heap = h) {a : Addr} (E : Exa Z h a C) {g : JFrame} (hg : g.method = m) (hsize : g.locals.size = c.maxLocals) {argsL rest : List Value} (has : (.ref a :: argsL).toArray = as)
    (hlen : ∀ sig, parseMethodDescriptor y.desc = some sig → argsL.length = sig.parameters.length) (hstack : g.stack = argsL.reverse ++ .ref a :: rest) (hW : 2 * g.monitorRoom + (rest.map fun v => v.category).sum ≤ W) (hd : decode c.code g.pc = .ok (.invokevirtual index, 3)) (hc : cells + kc ≤ R.cells) (hs : slots + ks ≤ R.slots) :
    AftW p l e R s m args below meth c T locs cells slots Z EL vm0 h own kc ks QQ g rest := by
  subst eT
  obtain ⟨cB, kB, q1, q2, q3⟩ := isOf (s := s.setVm vm0) hZ rfl E
  obtain ⟨v, _, ⟨T', L', k', n'⟩, -, X', h2, gl, ⟨L, hQ, l1, y1, z1, hC⟩, st⟩ := X.virtualBackS hx hown (mvT (s := s.setVm vm0) hZ w1) (mvT (s := s.setVm vm0) hZ w2) hnf (mvT (s := s.setVm vm0) hZ w3) (mvT (s := s.setVm vm0) hZ w4) hy K q1 q3 hg hsize (Steps.refl _) hlen hstack hW hd (fun _ _ => ⟨has, rfl, hc, hs⟩)
  try dsimp only [Pt.U, Pt.locs, Pt.cells, Pt.slots] at X' l1 y1 z1 st hQ h2 gl hC
  subst l1 y1 z1
  obtain ⟨a1, a2, a3, a4⟩ := rebS hS hk X' h2 gl hZ hown
  exact ⟨v, T', L, a1, hQ, a2, a3, a4, hC, fun u k => st.trans k⟩
end Wide
end Jvm.Own
namespace Jvm.Own
open Jvm Jvm.ClassFile Sem Op Lib Jvm.Free Jvm.Stand Jvm.LawKit Jvm.RoadKit Bundle
section Strs
variable {Z : State} {h h' : Heap} {x : Addr} {cs : List Int32} {B B' : Nat} {a : Addr} {sl : Nat} {v : Value} {ws : List Addr}
/-- at x stands a String of the chars cs (each 0 to 255), it and its array below B -/
def Str (Z : State) (B : Nat) (h : Heap) (x : Addr) (cs : List Int32) : Prop := ∃ (t : Addr) (kb : ClassId), x < B ∧ t < B ∧ Exa Z h x "java/lang/String" ∧ Fld Z h x "java/lang/String" "value" "[B" (.ref t) ∧ Fld Z h x "java/lang/String" "coder" "B" (.int 0) ∧ Arv Z h t kb .byte (Int32.ofNat cs.length) ((cs.map fun c => c.toInt8.toInt32).map Value.int) (.int 0) ∧ (∀ c ∈ cs, ¬ c < 0 ∧ ¬ (255 : Int32) < c) ∧ cs.length ≤ 4000
theorem Str.ext (F : Str Z B h x cs) (E : Ext h h') : Str Z B h' x cs := by
  obtain ⟨t, kb, h1, h2, a, b, c, d, r⟩ := F; exact ⟨t, kb, h1, h2, a.ext E, b.ext E, c.ext E, d.ext E, r⟩
theorem Str.wr (F : Str Z B h x cs) (W : Wr h h' a sl v) (q : B ≤ a) : Str Z B h' x cs := by
  obtain ⟨t, kb, h1, h2, a, b, c, d, r⟩ := F
  exact ⟨t, kb, h1, h2, a.wr W, b.other W (Or.inl (Nat.ne_of_lt (Nat.lt_of_lt_of_le h1 q))), c.other W (Or.inl (Nat.ne_of_lt (Nat.lt_of_lt_of_le h1 q))), d.other W (Nat.ne_of_lt (Nat.lt_of_lt_of_le h2 q)), r⟩
theorem Str.wrE {C : String} {k : Nat} {a0 : Array Value} (F : Str Z B h x cs) (W : Wr h h' a sl v) (E : Exa Z h a C) (hC : C ≠ "java/lang/String") (wi : (Jvm.Cond.instantiable C k).before a0 Z = true) : Str Z B h' x cs := by
  obtain ⟨t, kb, h1, h2, a, b, c, d, r⟩ := F
  have n1 := (ne_exa E a hC).symm
  exact ⟨t, kb, h1, h2, a.wr W, b.other W (Or.inl n1), c.other W (Or.inl n1), d.other W (Exa.neArv E d wi).symm, r⟩
theorem Str.keep (F : Str Z B h x cs) (K : Keep h h' ws) (q : ∀ w ∈ ws, B ≤ w) : Str Z B h' x cs := by
  obtain ⟨t, kb, h1, h2, a, b, c, d, r⟩ := F
  have n1 : x ∉ ws := fun z => absurd h1 (Nat.not_lt.mpr (q _ z))
  have n2 : t ∉ ws := fun z => absurd h2 (Nat.not_lt.mpr (q _ z))
  exact ⟨t, kb, h1, h2, a.keep K, b.keep K n1, c.keep K n1, d.keep K n2, r⟩
theorem Str.keepE (F : Str Z B h x cs) (K : Keep h h' ws) (q : ∀ w ∈ ws, B ≤ w ∨ ∃ (C : String) (k : Nat) (a0 : Array Value), Exa Z h w C ∧ C ≠ "java/lang/String" ∧ (Jvm.Cond.instantiable C k).before a0 Z = true) : Str Z B h' x cs := by
  obtain ⟨t, kb, h1, h2, a, b, c, d, r⟩ := F
  have n1 : x ∉ ws := fun z => (q _ z).elim (fun u => absurd h1 (Nat.not_lt.mpr u)) (fun ⟨C, k, a0, E, hC, wi⟩ => ne_exa E a hC rfl)
  have n2 : t ∉ ws := fun z => (q _ z).elim (fun u => absurd h2 (Nat.not_lt.mpr u)) (fun ⟨C, k, a0, E, hC, wi⟩ => Exa.neArv E d wi rfl)
  exact ⟨t, kb, h1, h2, a.keep K, b.keep K n1, c.keep K n1, d.keep K n2, r⟩
theorem Str.mono (F : Str Z B h x cs) (q : B ≤ B') : Str Z B' h x cs := by
  obtain ⟨t, kb, h1, h2, r⟩ := F; exact ⟨t, kb, Nat.lt_of_lt_of_le h1 q, Nat.lt_of_lt_of_le h2 q, r⟩
theorem Str.lt (F : Str Z B h x cs) : x < B := by obtain ⟨t, kb, h1, r⟩ := F; exact h1
theorem Str.exa (F : Str Z B h x cs) : Exa Z h x "java/lang/String" := by obtain ⟨t, kb, h1, h2, a, r⟩ := F; exact a
theorem Str.lat (F : Str Z B h x cs) : ∀ c ∈ cs, ¬ c < 0 ∧ ¬ (255 : Int32) < c := by obtain ⟨t, kb, h1, h2, a, b, c, d, r, -⟩ := F; exact r
theorem Str.le4 (F : Str Z B h x cs) : cs.length ≤ 4000 := by obtain ⟨t, kb, h1, h2, a, b, c, d, r, q⟩ := F; exact q
theorem up255 {cs : List Int32} (hp : ∀ c ∈ cs, ¬ c < 0 ∧ ¬ (255 : Int32) < c) : ∀ c ∈ cs, ¬ c < 0 ∧ ¬ (65535 : Int32) < c := fun c hc => ⟨(hp c hc).1, fun q => (hp c hc).2 (by
  rw [Int32.lt_iff_toInt_lt] at q ⊢
  have e1 : (65535 : Int32).toInt = 65535 := by decide
  have e2 : (255 : Int32).toInt = 255 := by decide
  omega)⟩
end Strs
end Jvm.Own
namespace Jvm.Own
open Jvm Jvm.ClassFile Sem Op Lib Jvm.Free Jvm.Stand Jvm.LawKit Jvm.RoadKit Bundle
section Supers
variable {p : Program} {l : Launch} {e : Env} {R : Room} {s : State} {m : MethodId} {args : Array Value} {below : List Frame} {meth : Method} {c : Code} {T : State} {locs : List Loc} {cells slots : Nat} {Z : State} {a0 : Array Value} {h : Heap}
theorem sel_priv {K : String} {y : MethodName} (w : (Jvm.Cond.selects K y y).before args s = true) (hp : s.PrivateAt y) (hi : (Jvm.Cond.instanceMethod y).before args s = true) (hy : y.cls ≠ "java/lang/invoke/MethodHandle" ∧ y.cls ≠ "java/lang/invoke/VarHandle") : (Jvm.Cond.selects y.cls y y).before args s = true := by
  obtain ⟨mk, methM, hnamed, hmethM, -, -⟩ := Cond.instanceMethod_spec hi
  obtain ⟨c2, r2, m2, -, -, q3, -, kP, hkP, hkPi⟩ := Cond.selects_spec w
  cases hnamed.symm.trans q3
  exact selects_self_of_private (findClass_of_methodNamed hnamed) hkP hkPi hp hi hy
theorem same_own {K : String} {y z : MethodName} (hi : (Jvm.Cond.instanceMethod y).before args s = true) (w : (Jvm.Cond.selects K z z).before args s = true) (hc : z.cls = y.cls) (hy : y.cls ≠ "java/lang/invoke/MethodHandle" ∧ y.cls ≠ "java/lang/invoke/VarHandle") : (Jvm.Cond.sameMethod y.cls y.cls y.name y.desc).before args s = true := by
  obtain ⟨mk, methM, hnamed, hmethM, -, -⟩ := Cond.instanceMethod_spec hi
  obtain ⟨c2, r2, m2, -, -, q3, -, kP, hkP, hkPi⟩ := Cond.selects_spec w
  have f1 := findClass_of_methodNamed hnamed
  have f2 := findClass_of_methodNamed q3
  rw [hc] at f2
  have f3 : mk.cls = m2.cls := Option.some.inj (f1.symm.trans f2)
  have hfound : s.methodFound? y.cls y.name y.desc = some mk := State.methodFound?_of_named hnamed hy
  have hn : s.methodNamed? ⟨y.cls, y.name, y.desc⟩ = some mk := hnamed
  simp only [Cond.before, Cond.holds, Cond.value, f1, hfound, hn, f3, hkP]
  simp [hkPi]
theorem nf_own {K : String} {y z : MethodName} (w : (Jvm.Cond.selects K z z).before args s = true) (hc : z.cls = y.cls) : NotFace s y := by
  intro r0 hn
  obtain ⟨c2, r2, m2, -, -, q3, -, kP, hkP, hkPi⟩ := Cond.selects_spec w
  have f1 := findClass_of_methodNamed hn
  have f2 := findClass_of_methodNamed q3
  rw [hc] at f2
  have f3 : r0.cls = m2.cls := Option.some.inj (f1.symm.trans f2)
  exact ⟨kP, by rw [f3]; exact hkP, hkPi⟩
/-- super.m(..) -/
theorem goSup (X : Stand p l e R s m args below meth c T locs cells slots) (hx : p.tables.exec = Jvm.exec) (hZ : Z.Warmed39 s.vm) {own K : String} {index : Nat} {y : MethodName} {bytes : ByteArray} {maxL : Nat} {ret : Option FieldType} (hown : s.vm.findClass own = some m.cls)
    (w1 : (Jvm.Cond.methodLink own index y).before a0 Z = true) (w2 : (Jvm.Cond.sameMethod y.cls y.cls y.name y.desc).before a0 Z = true) (w3 : (Jvm.Cond.instanceMethod y).before a0 Z = true) (w4 : (Jvm.Cond.superclass own y.cls).before a0 Z = true) (hn : y.name ≠ "<init>")
    {W kc ks : Nat} {as : Array Value} {QQ : Option Value → Heap → List Loc → Prop} (P : Pay l R p e below s args y W as h kc ks QQ) (eT : T.heap = h) {a : Addr} (F : Ins Z h a K true) (wc : (Jvm.Cond.code y bytes maxL ret).before a0 Z = true) {g : JFrame} (hg : g.method = m) (hsize : g.locals.size = c.maxLocals) {argsL rest : List Value} (has : (.ref a :: argsL).toArray = as)
    (hlen : ∀ sig, parseMethodDescriptor y.desc = some sig → argsL.length = sig.parameters.length) (hstack : g.stack = argsL.reverse ++ .ref a :: rest) (hW : 2 * g.monitorRoom + (rest.map fun v => v.category).sum ≤ W) (hd : decode c.code g.pc = .ok (.invokespecial index, 3)) (hc : cells + kc ≤ R.cells) (hs : slots + ks ≤ R.slots) :
    ∃ v T' L, Stand p l e R s m args below meth c T' (locs ++ L) (cells + kc) (slots + ks) ∧ QQ v T'.heap L ∧ ∀ u, Steps p.tables e below (T'.setTop { g with pc := g.pc + 3, stack := v.toList ++ rest }) u → Steps p.tables e below (T.setTop g) u := by
  obtain ⟨v, _, ⟨T', L', k', n'⟩, -, X', ⟨L, hQ, l1, y1, z1⟩, st⟩ := superBack X hx hZ hown w1 w2 w3 w4 hn P eT F hg hsize wc hlen hstack hW hd (fun _ _ => ⟨has, eT, hc, hs⟩)
  try dsimp only [Pt.U, Pt.locs, Pt.cells, Pt.slots] at X' l1 y1 z1 st hQ
  subst l1 y1 z1
  exact ⟨v, T', L, X', hQ, fun u k => st.trans k⟩
end Supers
end Jvm.Own
@@BLOCK:TracedD.lean.txt@@
namespace Jvm.Own
open Jvm Jvm.ClassFile Sem Op Lib Jvm.Free Jvm.Stand Jvm.LawKit Jvm.RoadKit Bundle Jvm.Free.Exc
section Excs
variable {p : Program} {l : Launch} {e : Env} {R : Room} {s : State} {m : MethodId} {args : Array Value} {below : List Frame} {meth : Method} {c : Code} {T : State} {locs : List Loc} {cells slots : Nat} {Z : State} {a0 : Array Value} {h h' h0 : Heap} {EL : List (String × Nat)} {vm0 : Vm} {k0 : Nat}
abbrev CK (l : Launch) (Z : State) (EL : List (String × Nat)) (y : MethodName) (ws : List Jvm.Cond) (rm : Room) (as : Array Value) (h0 : Heap) (Q : Option Value → Heap → List Loc → Prop) : Prop :=
  MetFree l y (head1 ws rm) (fun a U => a = as ∧ Z.Warmed39 U.vm ∧ U.heap = h0 ∧ CHv Z EL U.vm h0) (fun _ _ bl s _ => s.vm.MethodsKnown ∧ s.vm.FramesKnown bl) (fun _ U o U' => ∃ v L, o = .returned v ∧ Q v U'.heap L ∧ CHr Z EL U.vm U.heap U'.vm U'.heap ∧ ReturnedEndW U o U' L rm.cells rm.slots)
abbrev CKL (l : Launch) (Z : State) (EL : List (String × Nat)) (y : MethodName) (ws : List Jvm.Cond) (rm : Room) (as : Array Value) (h0 : Heap) (Q : Option Value → Heap → List Loc → Prop) : Prop :=
  MetFree l y (head1 ws rm) (fun a U => a = as ∧ Z.Warmed39 U.vm ∧ U.heap = h0 ∧ CHv Z EL U.vm h0) (fun _ _ _ s _ => Jvm.Pilot.@@N@@.Jvm.D.framesKnown s = true ∧ Jvm.Pilot.@@N@@.Jvm.D.tablesKnown s = true) (fun _ U o U' => ∃ v L, o = .returned v ∧ Q v U'.heap L ∧ CHr Z EL U.vm U.heap U'.vm U'.heap ∧ ReturnedEndW U o U' L rm.cells rm.slots)
theorem CK.of {y : MethodName} {bytes : ByteArray} {maxL : Nat} {ret : Option FieldType} {ws : List Jvm.Cond} {rm : Room} {as : Array Value} {Q : Option Value → Heap → List Loc → Prop} {L0 : Array Slot}
    (hp : plainFor y = true) (ef : ∀ m, entryFrame m as maxL = mkF m 0 L0 [])
    (body : ∀ (p : Program) (e : Env) (s : State) (m : MethodId) (below : List Frame) (meth : Method) (c : Code) (s₁ : State), p.tables.exec = Jvm.exec → c.code = bytes → c.maxLocals = maxL → meth.sig.returnType = ret → meth.locks = false → Z.Warmed39 s.vm → s.vm.findClass y.cls = some m.cls → meth.name = y.name → Stand p l e rm (s.setVm s.vm) m as below meth c s₁ [] 0 0 → s₁.heap = h0 → s.Since s.vm h0.size → h0.size ≤ h0.size → CHv Z EL s.vm h0 → s.heap = h0 → Z.vm.MethodsKnown → Z.vm.FramesKnown below → Go p e below (QW Z EL s rm Q) (s₁.setTop (mkF m 0 L0 []))) :
    CK l Z EL y (Jvm.Cond.code y bytes maxL ret :: ws) rm as h0 Q := by
  refine MetFree.of_bodySF hp hisR ?_
  intro p e s m args below meth c s₁ Bd hml0 hP hK
  obtain ⟨rfl, hZ, hh, hC⟩ := hP
  have q := body p e s m below meth c s₁ Bd.exec Bd.bytes hml0 Bd.returns Bd.notSynchronized hZ (findClass_of_methodNamed Bd.named) (name_of_methodNamed Bd.named Bd.method).1 (Stand.of_body Bd) (by rw [← hh, Bd.state]; rfl) (State.WarmedH.since (State.WarmedH.refl s) _) (Nat.le_refl _) hC hh (Vm.MethodsKnown.alikeC hZ.alike.symm hK.1) (Vm.FramesKnown.alikeC hZ.alike.symm hK.2)
  rw [← ef m] at q
  exact q
theorem CKL.of {y : MethodName} {bytes : ByteArray} {maxL : Nat} {ret : Option FieldType} {ws : List Jvm.Cond} {rm : Room} {as : Array Value} {Q : Option Value → Heap → List Loc → Prop} {L0 : Array Slot}
    (hp : plainFor y = true) (ef : ∀ m, entryFrame m as maxL = mkF m 0 L0 [])
    (body : ∀ (p : Program) (e : Env) (s : State) (m : MethodId) (below : List Frame) (meth : Method) (c : Code) (s₁ : State), p.tables.exec = Jvm.exec → c.code = bytes → c.maxLocals = maxL → meth.sig.returnType = ret → meth.locks = false → Z.Warmed39 s.vm → s.vm.findClass y.cls = some m.cls → meth.name = y.name → Stand p l e rm (s.setVm s.vm) m as below meth c s₁ [] 0 0 → s₁.heap = h0 → s.Since s.vm h0.size → h0.size ≤ h0.size → CHv Z EL s.vm h0 → s.heap = h0 → Z.vm.MethodsKnown → Z.vm.FramesKnown below → Go p e below (QW Z EL s rm Q) (s₁.setTop (mkF m 0 L0 []))) :
    CKL l Z EL y (Jvm.Cond.code y bytes maxL ret :: ws) rm as h0 Q := by
  refine MetFree.of_bodySF hp hisR ?_
  intro p e s m args below meth c s₁ Bd hml0 hP hK
  obtain ⟨rfl, hZ, hh, hC⟩ := hP
  have X0 := Stand.of_body Bd
  obtain ⟨hTK, hBelow⟩ := X0.known hK.2 hK.1
  have q := body p e s m below meth c s₁ Bd.exec Bd.bytes hml0 Bd.returns Bd.notSynchronized hZ (findClass_of_methodNamed Bd.named) (name_of_methodNamed Bd.named Bd.method).1 X0 (by rw [← hh, Bd.state]; rfl) (State.WarmedH.since (State.WarmedH.refl s) _) (Nat.le_refl _) hC hh (Vm.MethodsKnown.alikeC hZ.alike.symm hTK) (Vm.FramesKnown.alikeC hZ.alike.symm hBelow)
  rw [← ef m] at q
  exact q
theorem Kp.toKeep {a : Addr} (K : Kp Z h h' a) : Keep h h' [a] := by
  refine ⟨K.1, fun x c q r => ?_, fun x c q => ?_⟩
  · obtain ⟨c', h1, -, -, h4, -⟩ := K.2 x c q
    have hne : x ≠ a := fun z => r (by simp [z])
    rw [h1, h4 hne]
  · obtain ⟨c', h1, h2, h3, -, -⟩ := K.2 x c q
    exact ⟨c', h1, by rw [h2], by rw [h2], h3⟩
def flatC (k : Nat) (rc : String) : List Link → List Jvm.Cond
  | [] => .code (ctor k tN) (topCode k) (k + 1) none :: .fieldLink tN 31 tN "detailMessage" msgD :: excAtoms rc
  | x :: r => .code (ctor k x.1) x.2.2 (k + 1) none :: .initialized x.1 :: .methodLink x.1 x.2.1 (ctor k (headName r)) :: .instanceMethod (ctor k (headName r)) :: flatC k rc r
theorem chain_of {k : Nat} {rc : String} : ∀ links : List Link, (∀ d ∈ flatC k rc links, d.before args s = true) → (chainTab k rc links).before args s = true
  | [], q => conj_of q
  | x :: r, q => conj_of fun d hd => by
    simp only [List.mem_cons, List.not_mem_nil, or_false] at hd
    rcases hd with rfl | rfl | rfl | rfl | rfl
    · exact q _ (List.mem_of_getElem? (i := 0) rfl)
    · exact q _ (List.mem_of_getElem? (i := 1) rfl)
    · exact q _ (List.mem_of_getElem? (i := 2) rfl)
    · exact q _ (List.mem_of_getElem? (i := 3) rfl)
    · exact chain_of r fun d hd => q d (List.mem_cons_of_mem _ (List.mem_cons_of_mem _ (List.mem_cons_of_mem _ (List.mem_cons_of_mem _ hd))))
theorem ths_old {n0 : Nat} (O : Old Z n0 h) : ThS Z h := ThS.ext O.2 ThS.start
end Excs
end Jvm.Own
namespace Jvm.Own
open Jvm Jvm.ClassFile Sem Op Lib Jvm.Free Jvm.Stand Jvm.LawKit Jvm.RoadKit Bundle Jvm.Free.Exc LibCode.Throwable
section Fill
/-- the words of Throwable that this sheet bears (suppressedExceptions is laid in rc, not in Throwable itself) -/
def thrW (rc : String) : List Jvm.Cond := [.initialized tN, .superclass tN "java/lang/Object", .instanceMethod tFill, .codeSync tFill Fill.code 1 (some (.object tN)), .instanceMethod tFill0, .native tFill0, .instanceMethod tInit0, .code tInit0 Init0.code 1 none, .instanceMethod oInit, .code oInit ⟨#[0xb1]⟩ 1 none,
  .methodLink tN 1 oInit, .methodLink tN 27 tFill, .methodLink tN 202 tFill0, .fieldLink tN 7 tN "cause" thD, .fieldLink tN 17 tN "stackTrace" steD, .fieldLink tN 24 tN "suppressedExceptions" listD, .fieldLink tN 13 tN "UNASSIGNED_STACK" steD, .laysStatic tN "UNASSIGNED_STACK" steD, .fieldLink tN 20 tN "SUPPRESSED_SENTINEL" listD, .laysStatic tN "SUPPRESSED_SENTINEL" listD,
  .lays rc tN "cause" thD, .lays rc tN "stackTrace" steD, .lays rc tN "suppressedExceptions" listD, .lays rc tN "detailMessage" msgD, .lays rc tN "backtrace" obD, .lays rc tN "depth" "I",
  .declares tFill, .selects rc tFill0 tFill0, .selects rc tFill tFill, .fieldLink tN 198 tN "backtrace" obD, .arrayOver (.object "java/lang/Object"), .soleField tN "backtrace", .soleField tN "depth"]
variable {args : Array Value} {s : State} {pl : Platform} {rc : String}
theorem own_thr (m1 : pl.frameOwnsMonitors = true) (m2 : pl.finalization = false) (m3 : pl.magicAccessors = ({} : Platform).magicAccessors) (W : ∀ w ∈ thrW rc, w.before args s = true) :
    ∃ T : ThrowableC, T.Links pl s ∧ s.vm.findClass tN = some T.cT ∧ s.methodNamed? tFill = some T.fill ∧ s.methodNamed? tFill0 = some T.fill0 ∧ s.fieldFound? tN "stackTrace" steD = some (T.cT, T.kT, T.i17, T.fStack) ∧ s.fieldFound? tN "UNASSIGNED_STACK" steD = some (T.cT, T.kT, T.i13, T.fUnassigned) ∧ (∃ cell, s.heap[T.aS]? = some cell ∧ cell.vm.isStatics = true) ∧ T.fStack.type = .array (.object "java/lang/StackTraceElement") ∧ T.fStack.name = "stackTrace" := by
  have V : ∀ w, w ∈ thrW rc → w.holds args s none s [] = true := fun w q => W w q
  -- the native one tells the class
  obtain ⟨⟨ct, nx⟩, mN, n1, n2, n3, n4, n5, n6⟩ := Cond.native_spec (V (.native tFill0) (by simp [thrW]))
  have F : s.vm.findClass tN = some ct := findClass_of_methodNamed n1
  obtain ⟨kt, K, nameK⟩ := Vm.findClass_spec F
  obtain ⟨_, k', _, _, K', _, _, _, _, noFace⟩ := Cond.superclass_spec F (V (.superclass tN "java/lang/Object") (by simp [thrW]))
  cases K.symm.trans K'
  -- the methods
  obtain ⟨fx, mF, f1, f2, f3, f4, f5, -, -⟩ := Cond.ownMethod (x := tFill) F K (V (.instanceMethod tFill) (by simp [thrW]))
  obtain ⟨mF', cF, g2, g3, g4, g5, g6, g7, -, g9⟩ := Cond.codeSync_spec f1 (V (.codeSync tFill Fill.code 1 (some (.object tN))) (by simp [thrW]))
  cases f2.symm.trans g2
  obtain ⟨nx', mN', o1, o2, o3, o4, o5, o6, o7⟩ := Cond.ownMethod (x := tFill0) F K (V (.instanceMethod tFill0) (by simp [thrW]))
  cases n1.symm.trans o1
  cases n2.symm.trans o2
  obtain ⟨mo, mO, b1, b2, b3, b4⟩ := Cond.instanceMethod_spec (V (.instanceMethod oInit) (by simp [thrW]))
  obtain ⟨mO', cO, c2, c3, c4, -, -, c7, -, c9⟩ := Cond.code_spec b1 (V (.code oInit ⟨#[0xb1]⟩ 1 none) (by simp [thrW]))
  cases b2.symm.trans c2
  obtain ⟨ko, KO, nameO⟩ := Vm.findClass_spec (findClass_of_methodNamed b1)
  obtain ⟨b5, b6⟩ := name_of_methodNamed b1 b2
  -- the links of the methods
  obtain ⟨i1, t1, cf, l1, r1, file, p1⟩ := Cond.linkedMethod F K b1 (V (.methodLink tN 1 oInit) (by simp [thrW])) pl m3
  obtain ⟨i27, t27, cf2, l27, r27, file2, p27⟩ := Cond.linkedMethod F K f1 (V (.methodLink tN 27 tFill) (by simp [thrW])) pl m3
  cases file.symm.trans file2
  obtain ⟨i202, t202, cf3, l202, r202, file3, p202⟩ := Cond.linkedMethod F K n1 (V (.methodLink tN 202 tFill0) (by simp [thrW])) pl m3
  cases file.symm.trans file3
  -- the fields, by rc's words
  obtain ⟨j7, x7, y7, l7, r7, a7, s7, z7, -, -, -⟩ := Cond.ownField (t := .object tN) F K (by decide +kernel) (V (.fieldLink tN 7 tN "cause" thD) (by simp [thrW])) (V (.lays rc tN "cause" thD) (by simp [thrW])) pl m3
  obtain ⟨j17, x17, y17, l17, r17, a17, s17, z17, nm17, ty17, ff17⟩ := Cond.ownField (t := .array (.object "java/lang/StackTraceElement")) F K (by decide +kernel) (V (.fieldLink tN 17 tN "stackTrace" steD) (by simp [thrW])) (V (.lays rc tN "stackTrace" steD) (by simp [thrW])) pl m3
  obtain ⟨j24, x24, y24, l24, r24, a24, s24, z24, nm24, -, ff24⟩ := Cond.ownField (t := .object "java/util/List") F K (by decide +kernel) (V (.fieldLink tN 24 tN "suppressedExceptions" listD) (by simp [thrW])) (V (.lays rc tN "suppressedExceptions" listD) (by simp [thrW])) pl m3
  obtain ⟨j13, x13, y13, aS, cS, l13, r13, a13, s13, -, -, sta, hS, iss, -, -, ff13⟩ := Cond.ownStatic (t := .array (.object "java/lang/StackTraceElement")) F K (by decide +kernel) (V (.fieldLink tN 13 tN "UNASSIGNED_STACK" steD) (by simp [thrW])) (V (.laysStatic tN "UNASSIGNED_STACK" steD) (by simp [thrW])) pl m3
  obtain ⟨j20, x20, y20, _, _, l20, r20, a20, s20, -, -, -, -, -, -, -, -⟩ := Cond.ownStatic (t := .object "java/util/List") F K (by decide +kernel) (V (.fieldLink tN 20 tN "SUPPRESSED_SENTINEL" listD) (by simp [thrW])) (V (.laysStatic tN "SUPPRESSED_SENTINEL" listD) (by simp [thrW])) pl m3
  obtain ⟨cr, kr, cM, kM, iM, yM, hcr, hkr, ffM, sM, zM, _⟩ := Cond.lays_spec (V (.lays rc tN "detailMessage" msgD) (by simp [thrW]))
  have apart : y17.slot ≠ y24.slot := by
    obtain ⟨-, d, hd, dn⟩ := Cond.laysAt hcr hkr ff17 (V (.lays rc tN "stackTrace" steD) (by simp [thrW]))
    obtain ⟨-, d2, hd2, dn2⟩ := Cond.laysAt hcr hkr ff24 (V (.lays rc tN "suppressedExceptions" listD) (by simp [thrW]))
    exact Cond.laysApart hd hd2 dn dn2 (by rw [nm17, nm24]; decide)
  have sigF : mF.sig.parameters = [] := by
    have q : (parseMethodDescriptor tFill.desc).map (·.parameters) = some [] := by decide +kernel
    rw [g9] at q; simpa using q
  have sigN : mN.sig.parameters = [.int] := by
    have q : (parseMethodDescriptor tFill0.desc).map (·.parameters) = some [.int] := by decide +kernel
    rw [n6] at q; simpa using q
  have sigO : mO.sig.parameters.length = 0 := by
    have q : (parseMethodDescriptor oInit.desc).map (·.parameters) = some [] := by decide +kernel
    rw [c9] at q
    have q2 : mO.sig.parameters = [] := by simpa using q
    rw [q2]; rfl
  refine ⟨{ cT := ct, kT := kt, cO := ct, aS := aS, fillIdx := fx, fill0Idx := nx, initSIdx := fx, obj := mo, kObj := ko, methFill := mF, methFill0 := mN, methInitS := mF, methObj := mO, codeFill := cF, codeInitS := cF, codeObj := cO, fBack := y7, fDepth := y7, fStack := y17, fCause := y7, fSupp := y24, fMsg := yM, fUnassigned := y13, fSentinel := y20,
            cfT := cf, ci1 := i1, n1 := t1, ci27 := i27, n27 := t27, ci202 := i202, n202 := t202, ci7 := j7, i7 := x7, ci13 := j13, i13 := x13, ci17 := j17, i17 := x17, ci20 := j20, i20 := x20, ci24 := j24, i24 := x24 }, ?_, F, f1, n1, ff17, ff13, ⟨cS, hS, iss⟩, ty17, nm17⟩
  constructor
  case owns => exact m1
  case noFinalization => exact m2
  case cls => exact K
  case name => exact nameK
  case boot => exact Vm.findClass_boot F K
  case notInterface => exact noFace
  case initialized => exact Cond.initialized_spec F K (V (.initialized tN) (by simp [thrW]))
  case statics => exact sta
  case objFound => show lookupSpecial _ _ _ mO.desc = _; rw [b6]; exact lookupSpecial_of_named b1 b2 b3
  case stackApartSupp => exact apart
  all_goals assumption
theorem thrW_ok : (thrW rc).all xOk = true := rfl
end Fill
section Fill2
variable {p : Program} {l : Launch} {e : Env} {R : Room} {s : State} {m : MethodId} {args : Array Value} {below : List Frame} {meth : Method} {c : Code} {T : State} {locs : List Loc} {cells slots : Nat} {Z : State} {a0 : Array Value} {h h' : Heap} {a : Addr} {rc : String}
theorem same_keep (X : Stand p l e R s m args below meth c T locs cells slots) (hl : ∀ x ∈ locs, x.base = a) : Keep s.heap T.heap [a] := by
  obtain ⟨-, h1, -, -, -, h2⟩ := X.same
  refine ⟨h1, fun x c q r => ?_, fun x c q => ?_⟩
  · obtain ⟨c', q1, q2, q3, q4⟩ := h2 x c q
    have hne : x ≠ a := fun z => r (by simp [z])
    have e : c'.slots = c.slots := Array.ext_getElem? fun i => q4 i (fun hm => hne (hl _ hm))
    rw [show T.heap[x]? = some c' from q1, q2, e]
  · obtain ⟨c', q1, q2, q3, -⟩ := h2 x c q
    exact ⟨c', q1, by rw [q2], by rw [q2], q3⟩
theorem keep_mid {h0 : Heap} (K0 : Keep h0 h [a]) (sz : h.size = h0.size) (K1 : Keep h0 h' [a]) : Keep h h' [a] := by
  have old : ∀ (x : Addr) (c : Cell), h[x]? = some c → ∃ c0, h0[x]? = some c0 := fun x c q => by
    have lt := (Array.getElem?_eq_some_iff.mp q).1
    rw [sz] at lt
    exact ⟨_, Array.getElem?_eq_getElem lt⟩
  refine ⟨by rw [sz]; exact K1.1, fun x c q r => ?_, fun x c q => ?_⟩
  · obtain ⟨c0, q0⟩ := old x c q
    cases q.symm.trans (K0.2.1 x c0 q0 r)
    exact K1.2.1 x c q0 r
  · obtain ⟨c0, q0⟩ := old x c q
    obtain ⟨c1, a1, a2, a3, a4⟩ := K0.2.2 x c0 q0
    cases q.symm.trans a1
    obtain ⟨c2, b1, b2, b3, b4⟩ := K1.2.2 x c0 q0
    exact ⟨c2, b1, b2.trans a2.symm, b3.trans a3.symm, b4.trans a4.symm⟩
/-- the call of fillInStackTrace in a constructor of Throwable -/
theorem goFill (X : Stand p l e R s m args below meth c T locs cells slots) (hx : p.tables.exec = Jvm.exec) (hl : l.stackTraces = true) (hZ : Z.Warmed39 s.vm) (hown : s.vm.findClass tN = some m.cls) {n : Nat} (W : ∀ w ∈ thrW rc, w.before a0 Z = true) (wi : (Jvm.Cond.instantiable rc n).before a0 Z = true)
    (hT0 : ThS Z s.heap) (hTK : s.vm.MethodsKnown) (hBelow : s.vm.FramesKnown below) (eT : T.heap = h) (E : Exa Z h a rc) (N : Unt h a) {u v : Value} (hu : u.isRef = true) (FS : Fld Z h a tN "stackTrace" steD u) (SU : Sta Z h tN "UNASSIGNED_STACK" steD u) (FB : Fld Z h a tN "backtrace" obD .null) (FM : Fld Z h a tN "detailMessage" msgD v)
    (K0 : Keep s.heap h [a]) (sz : h.size = s.heap.size) (hlocs : ∀ x ∈ locs, x.base = a)
    {g : JFrame} (hg : g.method = m) (hsize : g.locals.size = c.maxLocals) {rest : List Value} (hs : g.stack = .ref a :: rest) (hd : decode c.code g.pc = .ok (.invokevirtual 27, 3)) {Wd : Nat} (hW : 2 * g.monitorRoom + (rest.map fun v => v.category).sum ≤ Wd) (hf : 3 ≤ R.frames) (hlo : Wd + 42 ≤ R.locals) (hc : cells + 1 ≤ R.cells) (hsl : slots + 2752 ≤ R.slots) :
    ∃ (T' : State) (h' : Heap) (L : List Loc), Stand p l e R s m args below meth c T' (locs ++ L) (cells + 1) (slots + 2752) ∧ T'.heap = h' ∧ (∀ x ∈ L, x.base = a) ∧ Keep h h' [a] ∧ Exa Z h' a rc ∧ Fld Z h' a tN "detailMessage" msgD v ∧
      ∀ target, Steps p.tables e below (T'.setTop { g with pc := g.pc + 3, stack := .ref a :: rest }) target → Steps p.tables e below (T.setTop g) target := by
  subst eT
  have Ws : ∀ w ∈ thrW rc, w.before args s = true := fun w q => mvX hT0 hZ (List.all_eq_true.mp thrW_ok w q) (W w q)
  have V : ∀ w, w ∈ thrW rc → w.holds args s none s [] = true := fun w q => Ws w q
  have hpl : e.platform.magicAccessors = ({} : Platform).magicAccessors := by rw [X.admits.platform]
  have htr : e.platform.stackTraces = true := by rw [X.admits.platform]; exact hl
  obtain ⟨Th, L, fT, fF, f0, ffS, ffU, -, tyS, nmS⟩ := own_thr (pl := e.platform) (by rw [X.admits.platform]) (by rw [X.admits.platform]) hpl Ws
  have E' := E
  obtain ⟨cell, kc, e1, e2, e3, e4, e5⟩ := E
  obtain ⟨cell', u1, u2, u3⟩ := N
  cases e1.symm.trans u1
  obtain ⟨cI, kI, i1, i2, i3, -⟩ := Cond.instantiable_spec wi
  cases e2.symm.trans i1
  cases e3.symm.trans i2
  have hfound : s.vm.findClass rc = some cell.cls := by rw [hZ.alike.findClass]; exact e2
  obtain ⟨kX, hk, ekX⟩ := hZ.alike.2.2 _ _ e3
  have hord : kX.kind = .ordinary := by rw [ekX]; exact i3
  have hsz : cell.slots.size = kX.instanceTypes.size := by rw [ekX]; exact e5 i3
  -- the statics
  obtain ⟨cfU, iU, kU, fU, st, cS, q1, q2, q3, q4, q5, q6, q7⟩ := SU
  obtain ⟨kU', hiU, ekU⟩ := State.fieldFound?_setVm (s := Z) hZ.alike q1
  have hiU' : s.fieldFound? tN "UNASSIGNED_STACK" steD = some (cfU, kU', iU, fU) := hiU
  cases ffU.symm.trans hiU'
  have est : Th.kT.statics = some st := by rw [ekU]; exact q4
  obtain rfl : st = Th.aS := Option.some.inj (est.symm.trans L.statics)
  have hneS : Th.aS ≠ a := fun z => by
    rw [z] at q5
    cases e1.symm.trans q5
    rw [u2] at q6; cases q6
  -- the fields
  obtain ⟨j198, x198, fB, l198, r198, a198, sB, -, nmB, tyB, ffB⟩ := Cond.ownField (t := .object "java/lang/Object") fT L.cls (by decide +kernel) (V (.fieldLink tN 198 tN "backtrace" obD) (by simp [thrW])) (V (.lays rc tN "backtrace" obD) (by simp [thrW])) e.platform hpl
  obtain ⟨_, _, cD, kD, iD, fD, -, -, ffD, sD, -, -, -, -⟩ := Cond.lays_spec (V (.lays rc tN "depth" "I") (by simp [thrW]))
  obtain ⟨_, _, cM, kM, iM, fM, -, -, ffM, sM, -, -, -, -⟩ := Cond.lays_spec (V (.lays rc tN "detailMessage" msgD) (by simp [thrW]))
  cases Option.some.inj ((Cond.lays_declared (V (.lays rc tN "depth" "I") (by simp [thrW])) ffD).symm.trans fT)
  obtain ⟨hkD, atD⟩ := State.fieldFound?_spec ffD
  cases Option.some.inj (hkD.symm.trans L.cls)
  obtain ⟨nmD, tyD⟩ := State.fieldFound?_type ffD (t := .int) (by decide +kernel)
  obtain ⟨nmM, -⟩ := State.fieldFound?_type ffM (t := .object "java/lang/String") (by decide +kernel)
  have hfb := Cond.soleField_find fT L.cls (V (.soleField tN "backtrace") (by simp [thrW])) a198 nmB sB
  have hfd := Cond.soleField_find fT L.cls (V (.soleField tN "depth") (by simp [thrW])) atD nmD sD
  obtain ⟨comp, cO, kO, -, -, hkO, hkindO, hO⟩ := Cond.arrayOver_spec (Ws (.arrayOver (.object "java/lang/Object")) (by simp [thrW]))
  obtain ⟨lS, dS, hdS, ndS⟩ := Cond.laysAt hfound hk ffS (V (.lays rc tN "stackTrace" steD) (by simp [thrW]))
  obtain ⟨lB, dB, hdB, ndB⟩ := Cond.laysAt hfound hk ffB (V (.lays rc tN "backtrace" obD) (by simp [thrW]))
  obtain ⟨lD, dD, hdD, ndD⟩ := Cond.laysAt hfound hk ffD (V (.lays rc tN "depth" "I") (by simp [thrW]))
  obtain ⟨lM, dM, hdM, ndM⟩ := Cond.laysAt hfound hk ffM (V (.lays rc tN "detailMessage" msgD) (by simp [thrW]))
  have mB := Cond.laysApart hdM hdB ndM ndB (by rw [nmM, nmB]; decide)
  have mD := Cond.laysApart hdM hdD ndM ndD (by rw [nmM, nmD]; decide)
  have mS := Cond.laysApart hdM hdS ndM ndS (by rw [nmM, nmS]; decide)
  have tk : ∀ {f : Field} {w : Value}, kX.instanceTypes[f.slot]? = some f.type → fits f.type w = true → Jvm.Takes s cell f w := fun {f w} h1 h2 => by
    obtain ⟨r1, r2⟩ := Takes.of_laid (v := w) hk hord h1 h2
    exact ⟨by rw [hsz]; simpa using r1, by rw [u2]; exact r2⟩
  -- what the receiver's slots hold
  have slotS : cell.slots[Th.fStack.slot]? = some u := by
    obtain ⟨c1, cf, kf, jf, f, b1, b2, -, -, -, -, b7⟩ := FS
    cases e1.symm.trans b1
    obtain ⟨c5, k5, i5, g6⟩ := Jvm.Free.BdW.found_ride (U := s) (U' := Z) hZ.alike.symm ⟨_, _, _, ffS⟩
    cases b2.symm.trans g6
    exact b7
  have slotB : cell.slots[fB.slot]? = some .null := by
    obtain ⟨c1, cf, kf, jf, f, b1, b2, -, -, -, -, b7⟩ := FB
    cases e1.symm.trans b1
    obtain ⟨c5, k5, i5, g6⟩ := Jvm.Free.BdW.found_ride (U := s) (U' := Z) hZ.alike.symm ⟨_, _, _, ffB⟩
    cases b2.symm.trans g6
    exact b7
  have hsel0 : selectMethod e.platform s.vm cell.cls Th.fill0 = .method Th.fill0 := by
    obtain ⟨c2, r2, m2, p1, p2, p3, p4, -⟩ := Cond.selects_spec (V (.selects rc tFill0 tFill0) (by simp [thrW]))
    cases Option.some.inj (p1.symm.trans hfound)
    cases Option.some.inj (p2.symm.trans (State.methodFound?_of_named f0 (by decide)))
    cases Option.some.inj (p3.symm.trans f0)
    rw [Launch.admits_selectMethod X.admits]; exact p4
  have hSE := Ws (.selects rc tFill tFill) (by simp [thrW])
  have fits0 : fits Th.fStack.type u = true := by rw [tyS]; exact fits_refV_array _ ⟨u, hu⟩
  obtain ⟨v6, vm6, ⟨T6, L6, c6, n6⟩, hW6, X6, ⟨hv6, C6, nn, hn, hD6, w1, w2, w3, w4, hL6, hc6, hn6'⟩, come⟩ := X.virtualBack hx (own := tN) (C := rc) (index := 27) (y := tFill) (z := tFill) hown (Ws (.methodLink tN 27 tFill) (by simp [thrW])) (Ws (.declares tFill) (by simp [thrW])) (notFace_of_selects hSE) hSE (Ws (.instanceMethod tFill) (by simp [thrW])) (by decide)
    (fillPaysAny (l := l) (W := Wd) hx htr Th L fF (u0 := ⟨u, hu⟩) (self := a) (cell := cell) (cellS := cS) (fun _ => by rw [u2]; simp) (by rw [u2]; simp) (by rw [u3]) (by rw [u3]) slotS hsel0 hneS (fun z => by rw [z] at q6; cases q6) q7 (tk lS fits0)
      ⟨{ ci198 := j198, i198 := x198, fBack := fB }, ⟨l198, r198, a198, sB⟩, slotB⟩ hTK hBelow fT hO hkO hkindO hfb hfd (fun x => tk lB (by rw [tyB]; rfl)) (fun x => tk lD (by rw [tyD]; rfl)) (by omega) (by omega))
    (b := a) (cB := cell.cls) hfound ⟨cell, e1, rfl, by rw [u2]; rfl⟩ hg hsize (Steps.refl _) (argsL := []) (rest := rest) (fun sig q => by rw [show parseMethodDescriptor tFill.desc = some ⟨[], some (.object tN)⟩ from by decide +kernel] at q; rw [← Option.some.inj q]; rfl) hs hW hd
    (fun vmx hWx => ⟨rfl, hc, hsl, e1, q5⟩)
  dsimp only [Pt.U, Pt.locs, Pt.cells, Pt.slots] at X6 hD6 hL6 hc6 hn6' come
  subst hv6 hL6 hc6 hn6'
  have hb : ∀ x ∈ [(⟨a, fB.slot⟩ : Loc), ⟨a, fD.slot⟩, ⟨a, Th.fStack.slot⟩], x.base = a := fun x q => by
    simp only [List.mem_cons, List.not_mem_nil, or_false] at q
    rcases q with rfl | rfl | rfl <;> rfl
  have K6 : Keep T.heap T6.heap [a] := keep_mid K0 sz (same_keep X6 fun x q => (List.mem_append.mp q).elim (hlocs x) (hb x))
  refine ⟨T6, _, _, X6.more (Nat.le_refl _) (Nat.add_le_add_left hn _), rfl, hb, K6, E'.keep K6, ?_, fun target q => come.trans q⟩
  obtain ⟨c1, cf, kf, jf, f, b1, b2, b3, b4, b5, b6, b7⟩ := FM
  cases e1.symm.trans b1
  obtain ⟨c5, k5, i5, g6⟩ := Jvm.Free.BdW.found_ride (U := s) (U' := Z) hZ.alike.symm ⟨_, _, _, ffM⟩
  cases b2.symm.trans g6
  exact ⟨C6, _, _, _, _, hD6, b2, b3, by rw [w2]; exact b4, by rw [w2]; exact b5, by rw [w1]; exact b6, (w4 _ mB mD mS).trans b7⟩
end Fill2
end Jvm.Own
/- laws to paste: Road.backV, Road.lenW, Road.chN, Road.codOf (cut by pick.py; bodies as the Statement names them) -/
namespace Jvm.Pilot.@@N@@
namespace StrChars
open Jvm Sem ClassFile Op Lib Jvm.Stand Jvm.Free.XT Jvm.Free.ALB Jvm.Free.JM Jvm.Free
open Jvm.Lib.Cold (StaticIs)
/-- a char array whose places are chars -/
def Ch (a : Addr) (A : Cell) (U : State) : Prop := Arr .char a A U ∧ Typed .char A
theorem Ch.mv {a : Addr} {A : Cell} {U U' : State} (h : Ch a A U) (hal : U.vm.Alike U'.vm) (hh : U'.heap = U.heap) : Ch a A U' := ⟨h.1.mv hal hh, h.2⟩
theorem Ch.keep {a : Addr} {A : Cell} {U U' : State} (h : Ch a A U) (hal : U.vm.Alike U'.vm) (hk : U'.heap[a]? = some A) : Ch a A U' := ⟨h.1.keep hal hk, h.2⟩
/-- what place i of a char[]'s cell holds -/
def cv (A : Cell) (i : Nat) : Int32 := match A.slots[i]? with | some (.int x) => x | _ => 0
theorem Ch.get {a : Addr} {A : Cell} {U : State} (h : Ch a A U) {i : Nat} (hi : i < A.slots.size) : A.slots[i]? = some (.int (cv A i)) := by
  have e := Array.getElem?_eq_getElem hi
  have f := h.2 i _ e
  unfold cv; rw [e]
  generalize A.slots[i] = v at f
  cases v <;> simp [fits] at f ⊢
/-- the byte that i2b leaves of a char -/
def lo8 (x : Int32) : Int32 := x.toInt8.toInt32
theorem fits_lo8 (y : Int32) : fits .byte (.int (lo8 y)) = true := by
  have h1 := y.toInt8.le_toInt
  have h2 := y.toInt8.toInt_lt
  simp only [lo8, fits, Bool.and_eq_true, decide_eq_true_eq, Int32.le_iff_toInt_le, Int8.toInt_toInt32, show (-128 : Int32).toInt = -128 from by decide, show (127 : Int32).toInt = 127 from by decide]
  omega
/-- A' is A but that each place j of lo .. hi - 1 holds f j -/
def Laid (A A' : Cell) (lo hi : Nat) (f : Nat → Value) : Prop := A'.cls = A.cls ∧ A'.vm = A.vm ∧ A'.slots.size = A.slots.size ∧ ∀ i, A'.slots[i]? = if lo ≤ i ∧ i < hi then some (f i) else A.slots[i]?
theorem Laid.zero (A : Cell) (lo : Nat) (f : Nat → Value) : Laid A A lo (lo + 0) f := ⟨rfl, rfl, rfl, fun i => by rw [if_neg (by omega)]⟩
theorem Laid.step {A Ak : Cell} {lo k : Nat} {f : Nat → Value} {v : Value} (h : Laid A Ak lo k f) (hlo : lo ≤ k) (hk : k < Ak.slots.size) (hv : v = f k) : Laid A (Ak.setSlot k v) lo (k + 1) f := by
  refine ⟨h.1, h.2.1, by simpa [Cell.setSlot] using h.2.2.1, fun i => ?_⟩
  by_cases e : k = i
  · subst e; rw [Cell.slots_setSlot_self v hk, if_pos (by omega), hv]
  · rw [Cell.slots_setSlot_ne v e, h.2.2.2 i]
    by_cases q : lo ≤ i ∧ i < k
    · rw [if_pos q, if_pos (by omega)]
    · rw [if_neg q, if_neg (by omega)]
def U16 : String := "java/lang/StringUTF16"
namespace Cmp5
def yN : MethodName := ⟨"java/lang/StringUTF16", "compress", "([CI[BII)I"⟩
abbrev yB : ByteArray := jdk_52_method_21_code
theorem d0 : decode yB 0 = .ok (.iconst 0, 1) := by decide +kernel
theorem d1 : decode yB 1 = .ok (.istore 5, 2) := by decide +kernel
theorem d3 : decode yB 3 = .ok (.iload 5, 2) := by decide +kernel
theorem d5 : decode yB 5 = .ok (.iload 4, 2) := by decide +kernel
theorem d7 : decode yB 7 = .ok (.if_icmp (.ge) 37, 3) := by decide +kernel
theorem d10 : decode yB 10 = .ok (.aload_n 0, 1) := by decide +kernel
theorem d11 : decode yB 11 = .ok (.iload_n 1, 1) := by decide +kernel
theorem d12 : decode yB 12 = .ok (.caload, 1) := by decide +kernel
theorem d13 : decode yB 13 = .ok (.istore 6, 2) := by decide +kernel
theorem d15 : decode yB 15 = .ok (.iload 6, 2) := by decide +kernel
theorem d17 : decode yB 17 = .ok (.sipush 255, 3) := by decide +kernel
theorem d20 : decode yB 20 = .ok (.if_icmp (.le) 6, 3) := by decide +kernel
theorem d26 : decode yB 26 = .ok (.aload_n 2, 1) := by decide +kernel
theorem d27 : decode yB 27 = .ok (.iload_n 3, 1) := by decide +kernel
theorem d28 : decode yB 28 = .ok (.iload 6, 2) := by decide +kernel
theorem d30 : decode yB 30 = .ok (.i2b, 1) := by decide +kernel
theorem d31 : decode yB 31 = .ok (.bastore, 1) := by decide +kernel
theorem d32 : decode yB 32 = .ok (.iinc 1 1, 3) := by decide +kernel
theorem d35 : decode yB 35 = .ok (.iinc 3 1, 3) := by decide +kernel
theorem d38 : decode yB 38 = .ok (.iinc 5 1, 3) := by decide +kernel
theorem d41 : decode yB 41 = .ok (.goto (-38), 3) := by decide +kernel
theorem d44 : decode yB 44 = .ok (.iload 4, 2) := by decide +kernel
theorem d46 : decode yB 46 = .ok (.ireturn, 1) := by decide +kernel
def site : List Cond := []
def tab : Cond := tabOf yN yB 7 (some .int) site
def P (b : Addr) (A : Cell) (d : Addr) (B : Cell) (o q len : Nat) (args : Array Value) (s : State) : Prop := args = #[.ref b, .int (Int32.ofNat o), .ref d, .int (Int32.ofNat q), .int (Int32.ofNat len)] ∧ Ch b A s ∧ Arr .byte d B s ∧ b ≠ d ∧ o + len ≤ A.slots.size ∧ q + len ≤ B.slots.size ∧ ∀ i, i < len → ¬ 255 < cv A (o + i)
def E (b : Addr) (A : Cell) (d : Addr) (B : Cell) (o q len : Nat) (r : Option Value) (s u : State) : Prop := r = some (.int (Int32.ofNat len)) ∧ ∃ B', Put d B' s u ∧ Laid B B' q (q + len) (fun j => Value.int (lo8 (cv A (o + (j - q)))))
/-- no char of the range above 255: len; the places written hold each char's low byte -/
theorem law (l : Launch) (b : Addr) (A : Cell) (d : Addr) (B : Cell) (o q len : Nat) : Law l yN 5 5 0 0 yB 7 (some .int) site (P b A d B o q len) (E b A d B o q len) (copyLocs d q len) 0 0 := by
  refine Law.of_walk (plainFor_of_name (by decide +kernel)) (by decide +kernel) (by decide +kernel) (by decide) (fun _ _ h => by rw [h.1]; rfl) (fun _ U U' hal hh h => ⟨h.1, h.2.1.mv hal hh, h.2.2.1.mv hal hh, h.2.2.2⟩) (fun r U U' V V' h1 hal h2 h => ⟨h.1, h.2.elim fun B' q => ⟨B', q.1.mv h1 h2, q.2⟩⟩) ?_
  intro p e s m args below meth c s₁ X0 hexec hbytes hml hret hlk hnm hown hh0 W hP
  obtain ⟨rfl, hA, hB, hne, l1, l2, hp⟩ := hP
  have c1 : Steps p.tables e below (s₁.setTop (entryFrame m #[.ref b, .int (Int32.ofNat o), .ref d, .int (Int32.ofNat q), .int (Int32.ofNat len)] 7)) (s₁.setTop (mkF m 0 #[.val (.ref b), .val (.int (Int32.ofNat o)), .val (.ref d), .val (.int (Int32.ofNat q)), .val (.int (Int32.ofNat len)), .unset, .unset] [])) := entry rfl
  have hA0 := hA.1.mv X0.warmed.alike hh0
  have hB0 := hB.mv X0.warmed.alike hh0
  have a31 := hA.1.2.2.2
  have c2 : Steps p.tables e below (s₁.setTop (entryFrame m #[.ref b, .int (Int32.ofNat o), .ref d, .int (Int32.ofNat q), .int (Int32.ofNat len)] 7)) (s₁.setTop (mkF m 3 #[.val (.ref b), .val (.int (Int32.ofNat o)), .val (.ref d), .val (.int (Int32.ofNat q)), .val (.int (Int32.ofNat len)), .val (.int 0), .unset] [])) := c1.trans (by
    refine iconstV X0.here hexec rfl 0 (hb hbytes d0) (by decide) ?_
    refine XS.istore X0.here hexec rfl (hb hbytes d1) rfl rfl ?_
    exact Steps.refl _)
  have loop : ∀ (r i : Nat), i + r = len → ∀ (z : Slot), (z = .unset ∨ ∃ w, z = .val w ∧ w.category = 1) → ∀ (Tl : State) (Bk : Cell), Stand p l e { frames := 0, locals := 0, cells := 0, slots := 0 } s m #[.ref b, .int (Int32.ofNat o), .ref d, .int (Int32.ofNat q), .int (Int32.ofNat len)] below meth c Tl ([] ++ copyLocs d q i) 0 0 → Put d Bk s₁ Tl → Laid B Bk q (q + i) (fun j => Value.int (lo8 (cv A (o + (j - q))))) →
      Steps p.tables e below (s₁.setTop (entryFrame m #[.ref b, .int (Int32.ofNat o), .ref d, .int (Int32.ofNat q), .int (Int32.ofNat len)] 7)) (Tl.setTop (mkF m 3 #[.val (.ref b), .val (.int (Int32.ofNat (o + i))), .val (.ref d), .val (.int (Int32.ofNat (q + i))), .val (.int (Int32.ofNat len)), .val (.int (Int32.ofNat i)), z] [])) → ∃ (T' : State) (B' : Cell) (z' : Slot), Stand p l e { frames := 0, locals := 0, cells := 0, slots := 0 } s m #[.ref b, .int (Int32.ofNat o), .ref d, .int (Int32.ofNat q), .int (Int32.ofNat len)] below meth c T' ([] ++ copyLocs d q len) 0 0 ∧ Put d B' s₁ T' ∧ Laid B B' q (q + len) (fun j => Value.int (lo8 (cv A (o + (j - q))))) ∧
      Steps p.tables e below (s₁.setTop (entryFrame m #[.ref b, .int (Int32.ofNat o), .ref d, .int (Int32.ofNat q), .int (Int32.ofNat len)] 7)) (T'.setTop (mkF m 3 #[.val (.ref b), .val (.int (Int32.ofNat (o + len))), .val (.ref d), .val (.int (Int32.ofNat (q + len))), .val (.int (Int32.ofNat len)), .val (.int (Int32.ofNat len)), z'] [])) := by
    intro r
    induction r with
    | zero =>
      intro i hi z hz Tl Bk Xl pl fl cl
      have hil : i = len := by omega
      rw [hil] at Xl fl cl
      exact ⟨Tl, Bk, z, Xl, pl, fl, cl⟩
    | succ r ih =>
      intro i hi z hz Tl Bk Xl pl fl cl
      have all := X0.warmed.alike.symm.trans Xl.warmed.alike
      have hAl := hA0.keep all (pl.other hne hA0.1)
      have hBk := hB0.like all pl.1 fl.1 fl.2.1 fl.2.2.1
      have hlt : q + i < Bk.slots.size := by rw [fl.2.2.1]; omega
      have c3 : Steps p.tables e below (s₁.setTop (entryFrame m #[.ref b, .int (Int32.ofNat o), .ref d, .int (Int32.ofNat q), .int (Int32.ofNat len)] 7)) (Tl.setTop (mkF m 12 #[.val (.ref b), .val (.int (Int32.ofNat (o + i))), .val (.ref d), .val (.int (Int32.ofNat (q + i))), .val (.int (Int32.ofNat len)), .val (.int (Int32.ofNat i)), z] [.int (Int32.ofNat (o + i)), .ref b])) := cl.trans (by
        refine XS.iload Xl.here hexec rfl (hb hbytes d3) rfl ?_
        refine XS.iload Xl.here hexec rfl (hb hbytes d5) rfl ?_
        refine XS.icmpNo Xl.here hexec rfl (hb hbytes d7) rfl (ii_ge_f (lt32 (by omega) (by omega))) ?_
        refine XS.aloadN Xl.here hexec rfl (hb hbytes d10) rfl rfl ?_
        refine XS.iloadN Xl.here hexec rfl (hb hbytes d11) rfl ?_
        exact Steps.refl _)
      have c4 : Steps p.tables e below (s₁.setTop (entryFrame m #[.ref b, .int (Int32.ofNat o), .ref d, .int (Int32.ofNat q), .int (Int32.ofNat len)] 7)) (Tl.setTop (mkF m 13 #[.val (.ref b), .val (.int (Int32.ofNat (o + i))), .val (.ref d), .val (.int (Int32.ofNat (q + i))), .val (.int (Int32.ofNat len)), .val (.int (Int32.ofNat i)), z] [.int (cv A (o + i))])) := c3.trans (by
        refine Xl.aget hexec hAl rfl (hA.get (i := o + i) (by omega)) rfl rfl (hb hbytes d12) ?_
        exact Steps.refl _)
      have c5 : Steps p.tables e below (s₁.setTop (entryFrame m #[.ref b, .int (Int32.ofNat o), .ref d, .int (Int32.ofNat q), .int (Int32.ofNat len)] 7)) (Tl.setTop (mkF m 15 #[.val (.ref b), .val (.int (Int32.ofNat (o + i))), .val (.ref d), .val (.int (Int32.ofNat (q + i))), .val (.int (Int32.ofNat len)), .val (.int (Int32.ofNat i)), .val (.int (cv A (o + i)))] [])) := c4.trans (by
        refine XS.istoreS Xl.here hexec rfl (hb hbytes d13) rfl rfl hz ?_
        exact Steps.refl _)
      have c6 : Steps p.tables e below (s₁.setTop (entryFrame m #[.ref b, .int (Int32.ofNat o), .ref d, .int (Int32.ofNat q), .int (Int32.ofNat len)] 7)) (Tl.setTop (mkF m 31 #[.val (.ref b), .val (.int (Int32.ofNat (o + i))), .val (.ref d), .val (.int (Int32.ofNat (q + i))), .val (.int (Int32.ofNat len)), .val (.int (Int32.ofNat i)), .val (.int (cv A (o + i)))] [.int (lo8 (cv A (o + i))), .int (Int32.ofNat (q + i)), .ref d])) := c5.trans (by
        refine XS.iload Xl.here hexec rfl (hb hbytes d15) rfl ?_
        refine sipushV Xl.here hexec rfl 255 (hb hbytes d17) (by decide) ?_
        refine XS.icmpYes Xl.here hexec rfl (pc0 := 20) rfl (hb hbytes d20) rfl (ii_le_t (hp i (by omega))) (by decide) rfl ?_
        refine XS.aloadN Xl.here hexec rfl (hb hbytes d26) rfl rfl ?_
        refine XS.iloadN Xl.here hexec rfl (hb hbytes d27) rfl ?_
        refine XS.iload Xl.here hexec rfl (hb hbytes d28) rfl ?_
        refine i2b Xl.here hexec rfl (hb hbytes d30) rfl ?_
        exact Steps.refl _)
      obtain ⟨T7, X7, p7, st7⟩ := Xl.aput hexec hBk rfl hlt rfl (fits_lo8 (cv A (o + i))) (g := (mkF m 31 #[.val (.ref b), .val (.int (Int32.ofNat (o + i))), .val (.ref d), .val (.int (Int32.ofNat (q + i))), .val (.int (Int32.ofNat len)), .val (.int (Int32.ofNat i)), .val (.int (cv A (o + i)))] [.int (lo8 (cv A (o + i))), .int (Int32.ofNat (q + i)), .ref d])) rfl (rest := []) rfl (hb hbytes d31)
      have c8 : Steps p.tables e below (s₁.setTop (entryFrame m #[.ref b, .int (Int32.ofNat o), .ref d, .int (Int32.ofNat q), .int (Int32.ofNat len)] 7)) (T7.setTop (mkF m 32 #[.val (.ref b), .val (.int (Int32.ofNat (o + i))), .val (.ref d), .val (.int (Int32.ofNat (q + i))), .val (.int (Int32.ofNat len)), .val (.int (Int32.ofNat i)), .val (.int (cv A (o + i)))] [])) := c6.trans (st7 _ (Steps.refl _))
      have c9 : Steps p.tables e below (s₁.setTop (entryFrame m #[.ref b, .int (Int32.ofNat o), .ref d, .int (Int32.ofNat q), .int (Int32.ofNat len)] 7)) (T7.setTop (mkF m 3 #[.val (.ref b), .val (.int (Int32.ofNat (o + i) + 1)), .val (.ref d), .val (.int (Int32.ofNat (q + i) + 1)), .val (.int (Int32.ofNat len)), .val (.int (Int32.ofNat i + 1)), .val (.int (cv A (o + i)))] [])) := c8.trans (by
        refine iincV X7.here hexec rfl 1 (hb hbytes d32) (by decide) rfl rfl ?_
        refine iincV X7.here hexec rfl 1 (hb hbytes d35) (by decide) rfl rfl ?_
        refine iincV X7.here hexec rfl 1 (hb hbytes d38) (by decide) rfl rfl ?_
        refine XS.goto X7.here hexec rfl (pc0 := 41) rfl (hb hbytes d41) (by decide) rfl ?_
        exact Steps.refl _)
      have c10 : Steps p.tables e below (s₁.setTop (entryFrame m #[.ref b, .int (Int32.ofNat o), .ref d, .int (Int32.ofNat q), .int (Int32.ofNat len)] 7)) (T7.setTop (mkF m 3 #[.val (.ref b), .val (.int (Int32.ofNat (o + (i + 1)))), .val (.ref d), .val (.int (Int32.ofNat (q + (i + 1)))), .val (.int (Int32.ofNat len)), .val (.int (Int32.ofNat (i + 1))), .val (.int (cv A (o + i)))] [])) := by
        have := c9
        rw [succ32, succ32, succ32] at this
        exact this
      exact ih (i + 1) (by omega) _ (Or.inr ⟨_, rfl, rfl⟩) T7 _ (by rw [copyLocs_step, ← List.append_assoc]; exact X7) (pl.trans p7) (fl.step (by omega) hlt (by simp)) c10
  obtain ⟨T9, B9, z9, X9, p9, f9, g9⟩ := loop len 0 (by omega) .unset (Or.inl rfl) s₁ B (by simpa [copyLocs] using X0) ⟨hB0.1, fun _ _ => rfl, rfl⟩ (Laid.zero _ _ _) c2
  have c11 : Steps p.tables e below (s₁.setTop (entryFrame m #[.ref b, .int (Int32.ofNat o), .ref d, .int (Int32.ofNat q), .int (Int32.ofNat len)] 7)) (T9.setTop (mkF m 46 #[.val (.ref b), .val (.int (Int32.ofNat (o + len))), .val (.ref d), .val (.int (Int32.ofNat (q + len))), .val (.int (Int32.ofNat len)), .val (.int (Int32.ofNat len)), z9] [.int (Int32.ofNat len)])) := g9.trans (by
    refine XS.iload X9.here hexec rfl (hb hbytes d3) rfl ?_
    refine XS.iload X9.here hexec rfl (hb hbytes d5) rfl ?_
    refine XS.icmpYes X9.here hexec rfl (pc0 := 7) rfl (hb hbytes d7) rfl (ii_ge_t (nlt32 (by omega) (Nat.le_refl _))) (by decide) rfl ?_
    refine XS.iload X9.here hexec rfl (hb hbytes d44) rfl ?_
    exact Steps.refl _)
  exact ⟨T9, some (.int (Int32.ofNat len)), _, _, _, X9, by simp, rfl, rfl, (fun h => by cases h), ⟨rfl, B9, p9.from hh0, f9⟩, fun fs hl => c11.trans (X9.ireturnOut hexec hret rfl (Or.inl rfl) (hb hbytes d46) hl)⟩
end Cmp5
namespace Cmp3
def yN : MethodName := ⟨"java/lang/StringUTF16", "compress", "([CII)[B"⟩
abbrev yB : ByteArray := jdk_52_method_16_code
theorem d0 : decode yB 0 = .ok (.iload_n 2, 1) := by decide +kernel
theorem d1 : decode yB 1 = .ok (.newarray .byte, 2) := by decide +kernel
theorem d3 : decode yB 3 = .ok (.astore_n 3, 1) := by decide +kernel
theorem d4 : decode yB 4 = .ok (.aload_n 0, 1) := by decide +kernel
theorem d5 : decode yB 5 = .ok (.iload_n 1, 1) := by decide +kernel
theorem d6 : decode yB 6 = .ok (.aload_n 3, 1) := by decide +kernel
theorem d7 : decode yB 7 = .ok (.iconst 0, 1) := by decide +kernel
theorem d8 : decode yB 8 = .ok (.iload_n 2, 1) := by decide +kernel
theorem d9 : decode yB 9 = .ok (.invokestatic 115, 3) := by decide +kernel
theorem d12 : decode yB 12 = .ok (.istore 4, 2) := by decide +kernel
theorem d14 : decode yB 14 = .ok (.iload 4, 2) := by decide +kernel
theorem d16 : decode yB 16 = .ok (.iload_n 2, 1) := by decide +kernel
theorem d17 : decode yB 17 = .ok (.if_icmp (.eq) 40, 3) := by decide +kernel
theorem d57 : decode yB 57 = .ok (.aload_n 3, 1) := by decide +kernel
theorem d58 : decode yB 58 = .ok (.areturn, 1) := by decide +kernel
def site : List Cond := [.arrayClass .byte, Cmp5.tab] ++ staticW U16 115 Cmp5.yN
def tab : Cond := tabOf yN yB 6 (some (.array .byte)) site
def P (b : Addr) (A : Cell) (o len : Nat) (args : Array Value) (s : State) : Prop := args = #[.ref b, .int (Int32.ofNat o), .int (Int32.ofNat len)] ∧ Ch b A s ∧ o + len ≤ A.slots.size ∧ len ≤ 536870912 ∧ ∀ i, i < len → ¬ 255 < cv A (o + i)
def E (b : Addr) (A : Cell) (o len : Nat) (r : Option Value) (s u : State) : Prop := NewArr .byte "[B" len (fun j => .int (lo8 (cv A (o + j)))) r s u ∧ u.heap.size = s.heap.size + 1
/-- no char of the range above 255: a new byte[] of their low bytes -/
theorem law (l : Launch) (b : Addr) (A : Cell) (o len : Nat) : Law l yN 3 3 1 18 yB 6 (some (.array .byte)) site (P b A o len) (E b A o len) [] 1 len := by
  refine Law.of_walk (plainFor_of_name (by decide +kernel)) (by decide +kernel) (by decide +kernel) (by decide) (fun _ _ h => by rw [h.1]; rfl) (fun _ U U' hal hh h => ⟨h.1, h.2.1.mv hal hh, h.2.2⟩) (fun r U U' V V' h1 hal h2 h => ⟨NewArr.mv r U U' V V' h1 hal h2 h.1, by rw [h1, h2]; exact h.2⟩) ?_
  intro p e s m args below meth c s₁ X0 hexec hbytes hml hret hlk hnm hown hh0 W hP
  obtain ⟨rfl, hA, l1, l2, hp⟩ := hP
  have a31 := hA.1.2.2.2
  have c1 : Steps p.tables e below (s₁.setTop (entryFrame m #[.ref b, .int (Int32.ofNat o), .int (Int32.ofNat len)] 6)) (s₁.setTop (mkF m 0 #[.val (.ref b), .val (.int (Int32.ofNat o)), .val (.int (Int32.ofNat len)), .unset, .unset, .unset] [])) := entry rfl
  have c2 : Steps p.tables e below (s₁.setTop (entryFrame m #[.ref b, .int (Int32.ofNat o), .int (Int32.ofNat len)] 6)) (s₁.setTop (mkF m 1 #[.val (.ref b), .val (.int (Int32.ofNat o)), .val (.int (Int32.ofNat len)), .unset, .unset, .unset] [.int (Int32.ofNat len)])) := c1.trans (by
    refine XS.iloadN X0.here hexec rfl (hb hbytes d0) rfl ?_
    exact Steps.refl _)
  obtain ⟨T3, B3, X3, ba3, bs3, bv3, bh3, bf3, st3⟩ := X0.anew hexec (atype := .byte) (wk W (.arrayClass .byte)) rfl (by show len * 1 ≤ _; omega) (by omega) (g := (mkF m 1 #[.val (.ref b), .val (.int (Int32.ofNat o)), .val (.int (Int32.ofNat len)), .unset, .unset, .unset] [.int (Int32.ofNat len)])) rfl (hb hbytes d1) (rest := []) rfl (Nat.le_refl _) (by show 0 + len ≤ len; omega)
  rw [hh0] at ba3 st3
  have kp3 : XT.Kept s T3 := (XT.Kept.of_eq hh0).push bh3
  have hA3 := hA.keep X3.warmed.alike (kp3 _ _ hA.1.1)
  have hne : b ≠ s.heap.size := hA.1.ne
  have c4 : Steps p.tables e below (s₁.setTop (entryFrame m #[.ref b, .int (Int32.ofNat o), .int (Int32.ofNat len)] 6)) (T3.setTop (mkF m 3 #[.val (.ref b), .val (.int (Int32.ofNat o)), .val (.int (Int32.ofNat len)), .unset, .unset, .unset] [.ref s.heap.size])) := c2.trans (st3 _ (Steps.refl _))
  have c5 : Steps p.tables e below (s₁.setTop (entryFrame m #[.ref b, .int (Int32.ofNat o), .int (Int32.ofNat len)] 6)) (T3.setTop (mkF m 9 #[.val (.ref b), .val (.int (Int32.ofNat o)), .val (.int (Int32.ofNat len)), .val (.ref s.heap.size), .unset, .unset] [.int (Int32.ofNat len), .int 0, .ref s.heap.size, .int (Int32.ofNat o), .ref b])) := c4.trans (by
    refine XS.astoreN X3.here hexec rfl (hb hbytes d3) rfl rfl rfl ?_
    refine XS.aloadN X3.here hexec rfl (hb hbytes d4) rfl rfl ?_
    refine XS.iloadN X3.here hexec rfl (hb hbytes d5) rfl ?_
    refine XS.aloadN X3.here hexec rfl (hb hbytes d6) rfl rfl ?_
    refine iconstV X3.here hexec rfl 0 (hb hbytes d7) (by decide) ?_
    refine XS.iloadN X3.here hexec rfl (hb hbytes d8) rfl ?_
    exact Steps.refl _)
  obtain ⟨v6, T6, X6, E6, g6⟩ := X3.callS hexec (Cmp5.law l b A s.heap.size B3 o 0 len) hown (wks W (staticW U16 115 Cmp5.yN)) (wk W Cmp5.tab) (W := 0) (Nat.le_of_ble_eq_true rfl) (Nat.le_of_ble_eq_true rfl) (Nat.le_refl _) (by show 0 + len + 0 ≤ len; omega) (g := (mkF m 9 #[.val (.ref b), .val (.int (Int32.ofNat o)), .val (.int (Int32.ofNat len)), .val (.ref s.heap.size), .unset, .unset] [.int (Int32.ofNat len), .int (Int32.ofNat 0), .ref s.heap.size, .int (Int32.ofNat o), .ref b])) rfl (by rw [hml]; rfl) c5 (argsL := [.ref b, .int (Int32.ofNat o), .ref s.heap.size, .int (Int32.ofNat 0), .int (Int32.ofNat len)]) (rest := []) rfl rfl (by show 2 * 0 + 0 ≤ _; decide) (hb hbytes d9) (⟨rfl, hA3, ba3, hne, l1, by rw [bs3]; simp, hp⟩)
  obtain ⟨rfl, B6, p6, f6⟩ := E6
  have c7 : Steps p.tables e below (s₁.setTop (entryFrame m #[.ref b, .int (Int32.ofNat o), .int (Int32.ofNat len)] 6)) (T6.setTop (mkF m 12 #[.val (.ref b), .val (.int (Int32.ofNat o)), .val (.int (Int32.ofNat len)), .val (.ref s.heap.size), .unset, .unset] [.int (Int32.ofNat len)])) := g6
  have c8 : Steps p.tables e below (s₁.setTop (entryFrame m #[.ref b, .int (Int32.ofNat o), .int (Int32.ofNat len)] 6)) (T6.setTop (mkF m 58 #[.val (.ref b), .val (.int (Int32.ofNat o)), .val (.int (Int32.ofNat len)), .val (.ref s.heap.size), .val (.int (Int32.ofNat len)), .unset] [.ref s.heap.size])) := c7.trans (by
    refine XS.istore X6.here hexec rfl (hb hbytes d12) rfl rfl ?_
    refine XS.iload X6.here hexec rfl (hb hbytes d14) rfl ?_
    refine XS.iloadN X6.here hexec rfl (hb hbytes d16) rfl ?_
    refine XS.icmpYes X6.here hexec rfl (pc0 := 17) rfl (hb hbytes d17) rfl (ii_eq_t rfl) (by decide) rfl ?_
    refine XS.aloadN X6.here hexec rfl (hb hbytes d57) rfl rfl ?_
    exact Steps.refl _)
  have X8 := X6.wide (L' := []) (cells' := 1) (slots' := len) (fun x hx hlt => by
    simp only [List.nil_append, copyLocs, List.mem_map, List.mem_range] at hx
    obtain ⟨i, -, rfl⟩ := hx
    exact absurd hlt (Nat.lt_irrefl _)) (Nat.le_refl _) (by omega)
  exact ⟨T6, some (.ref s.heap.size), _, _, _, X8, rfl, rfl, rfl, (fun h => by cases h), ⟨⟨rfl, B6, ba3.like (X3.warmed.alike.symm.trans X6.warmed.alike) p6.1 f6.1 f6.2.1 f6.2.2.1, f6.2.1.trans bv3, by rw [X6.warmed.alike.findClass, f6.1]; exact bf3, by rw [f6.2.2.1, bs3]; simp, fun j hj => by rw [f6.2.2.2 j, if_pos (by omega)]; rfl, kp3.put p6 (Nat.le_refl _)⟩, by rw [p6.2.2, bh3, hh0]; simp⟩, fun fs hl => c8.trans (X8.areturnOut hexec rfl hret rfl (hb hbytes d58) hl)⟩
end Cmp3
namespace CodL
def yN : MethodName := ⟨"java/lang/StringUTF16", "coderFromArrayLen", "([BI)B"⟩
abbrev yB : ByteArray := jdk_52_method_15_code
theorem d0 : decode yB 0 = .ok (.iload_n 1, 1) := by decide +kernel
theorem d1 : decode yB 1 = .ok (.aload_n 0, 1) := by decide +kernel
theorem d2 : decode yB 2 = .ok (.arraylength, 1) := by decide +kernel
theorem d3 : decode yB 3 = .ok (.isub, 1) := by decide +kernel
theorem d4 : decode yB 4 = .ok (.bipush 31, 2) := by decide +kernel
theorem d6 : decode yB 6 = .ok (.iushr, 1) := by decide +kernel
theorem d7 : decode yB 7 = .ok (.i2b, 1) := by decide +kernel
theorem d8 : decode yB 8 = .ok (.ireturn, 1) := by decide +kernel
def site : List Cond := []
def tab : Cond := tabOf yN yB 2 (some .byte) site
def P (d : Addr) (B : Cell) (args : Array Value) (s : State) : Prop := args = #[.ref d, .int (Int32.ofNat B.slots.size)] ∧ Arr .byte d B s
def E (r : Option Value) (s u : State) : Prop := XT.PureE (some (.int 0)) r s u
/-- an array as long as the number of chars: LATIN1 -/
theorem law (l : Launch) (d : Addr) (B : Cell) : Law l yN 2 2 0 0 yB 2 (some .byte) site (P d B) E [] 0 0 := by
  refine Law.of_walk (plainFor_of_name (by decide +kernel)) (by decide +kernel) (by decide +kernel) (by decide) (fun _ _ h => by rw [h.1]; rfl) (fun _ U U' hal hh h => ⟨h.1, h.2.mv hal hh⟩) (fun r U U' V V' h1 hal h2 h => XT.PureE.mv r U U' V V' h1 hal h2 h) ?_
  intro p e s m args below meth c s₁ X0 hexec hbytes hml hret hlk hnm hown hh0 W hP
  obtain ⟨rfl, hB⟩ := hP
  have hB0 := hB.mv X0.warmed.alike hh0
  have c1 : Steps p.tables e below (s₁.setTop (entryFrame m #[.ref d, .int (Int32.ofNat B.slots.size)] 2)) (s₁.setTop (mkF m 0 #[.val (.ref d), .val (.int (Int32.ofNat B.slots.size))] [])) := entry rfl
  have c2 : Steps p.tables e below (s₁.setTop (entryFrame m #[.ref d, .int (Int32.ofNat B.slots.size)] 2)) (s₁.setTop (mkF m 2 #[.val (.ref d), .val (.int (Int32.ofNat B.slots.size))] [.ref d, .int (Int32.ofNat B.slots.size)])) := c1.trans (by
    refine XS.iloadN X0.here hexec rfl (hb hbytes d0) rfl ?_
    refine XS.aloadN X0.here hexec rfl (hb hbytes d1) rfl rfl ?_
    exact Steps.refl _)
  have c3 : Steps p.tables e below (s₁.setTop (entryFrame m #[.ref d, .int (Int32.ofNat B.slots.size)] 2)) (s₁.setTop (mkF m 8 #[.val (.ref d), .val (.int (Int32.ofNat B.slots.size))] [.int (lo8 (ushr (Int32.ofNat B.slots.size - Int32.ofNat B.slots.size) 31))])) := c2.trans (by
    refine X0.alen hexec hB0 rfl rfl (hb hbytes d2) ?_
    refine XS.isub X0.here hexec rfl (hb hbytes d3) rfl ?_
    refine bipushV X0.here hexec rfl 31 (hb hbytes d4) (by decide) ?_
    refine iushr X0.here hexec rfl (hb hbytes d6) rfl ?_
    refine i2b X0.here hexec rfl (hb hbytes d7) rfl ?_
    exact Steps.refl _)
  have e0 : lo8 (ushr (Int32.ofNat B.slots.size - Int32.ofNat B.slots.size) 31) = 0 := by rw [Int32.sub_self]; decide
  rw [e0] at c3
  exact ⟨s₁, some (.int 0), _, _, _, X0, rfl, rfl, rfl, (fun h => by cases h), ⟨rfl, hh0⟩, fun fs hl => c3.trans (X0.ireturnOut hexec hret rfl (Or.inr (Or.inr (Or.inl rfl))) (hb hbytes d8) hl)⟩
end CodL
/-- the String at a is Latin-1 over a new byte[] (the heap's one new cell): the low bytes of the len chars of A from o on; every cell but a is kept -/
def Got (a : Addr) (D : Cell) (fV fC : Field) (A : Cell) (o len : Nat) (r : Option Value) (s u : State) : Prop := r = none ∧ ∃ D' V : Cell, Blank "java/lang/String" a D' u ∧ Same D D' [fV.slot, fC.slot] ∧ D'.slots[fV.slot]? = some (.ref s.heap.size) ∧ D'.slots[fC.slot]? = some (.int 0) ∧ Arr .byte s.heap.size V u ∧ V.vm = .none ∧ u.vm.findClass "[B" = some V.cls ∧ V.slots.size = len ∧ (∀ j, j < len → V.slots[j]? = some (.int (lo8 (cv A (o + j))))) ∧ (∀ (y : Addr) (c : Cell), y ≠ a → s.heap[y]? = some c → u.heap[y]? = some c) ∧ u.heap.size = s.heap.size + 1
theorem Got.mv {a : Addr} {D A : Cell} {fV fC : Field} {o len : Nat} : ∀ r (U U' V V' : State), U'.heap = U.heap → V.vm.Alike V'.vm → V'.heap = V.heap → Got a D fV fC A o len r U V → Got a D fV fC A o len r U' V' :=
  fun r U U' V V' h1 hal h2 ⟨e0, D', X, a1, a2, a3, a4, a5, a6, a7, a8, a9, a10, a11⟩ => ⟨e0, D', X, a1.mv hal h2, a2, by rw [h1]; exact a3, a4, by rw [h1]; exact a5.mv hal h2, a6, by rw [hal.findClass]; exact a7, a8, a9, by rw [h1, h2]; exact a10, by rw [h1, h2]; exact a11⟩
namespace New4
def yN : MethodName := ⟨"java/lang/String", "<init>", "([CIILjava/lang/Void;)V"⟩
abbrev yB : ByteArray := jdk_42_method_149_code
theorem d0 : decode yB 0 = .ok (.aload_n 0, 1) := by decide +kernel
theorem d1 : decode yB 1 = .ok (.invokespecial 1, 3) := by decide +kernel
theorem d4 : decode yB 4 = .ok (.iload_n 3, 1) := by decide +kernel
theorem d5 : decode yB 5 = .ok (.ifCond (.ne) 22, 3) := by decide +kernel
theorem d27 : decode yB 27 = .ok (.getstatic 38, 3) := by decide +kernel
theorem d30 : decode yB 30 = .ok (.ifCond (.eq) 28, 3) := by decide +kernel
theorem d33 : decode yB 33 = .ok (.aload_n 1, 1) := by decide +kernel
theorem d34 : decode yB 34 = .ok (.iload_n 2, 1) := by decide +kernel
theorem d35 : decode yB 35 = .ok (.iload_n 3, 1) := by decide +kernel
theorem d36 : decode yB 36 = .ok (.invokestatic 177, 3) := by decide +kernel
theorem d39 : decode yB 39 = .ok (.astore 5, 2) := by decide +kernel
theorem d41 : decode yB 41 = .ok (.aload_n 0, 1) := by decide +kernel
theorem d42 : decode yB 42 = .ok (.aload 5, 2) := by decide +kernel
theorem d44 : decode yB 44 = .ok (.iload_n 3, 1) := by decide +kernel
theorem d45 : decode yB 45 = .ok (.invokestatic 47, 3) := by decide +kernel
theorem d48 : decode yB 48 = .ok (.putfield 15, 3) := by decide +kernel
theorem d51 : decode yB 51 = .ok (.aload_n 0, 1) := by decide +kernel
theorem d52 : decode yB 52 = .ok (.aload 5, 2) := by decide +kernel
theorem d54 : decode yB 54 = .ok (.putfield 9, 3) := by decide +kernel
theorem d57 : decode yB 57 = .ok (.return_, 1) := by decide +kernel
def site : List Cond := [.fieldLink "java/lang/String" 38 "java/lang/String" "COMPACT_STRINGS" "Z", Cmp3.tab, CodL.tab, .laysFinal "java/lang/String" "java/lang/String" "value" "[B", .fieldLink "java/lang/String" 9 "java/lang/String" "value" "[B", .laysFinal "java/lang/String" "java/lang/String" "coder" "B", .fieldLink "java/lang/String" 15 "java/lang/String" "coder" "B"] ++ objW "java/lang/String" 1 ++ staticW "java/lang/String" 177 Cmp3.yN ++ staticW "java/lang/String" 47 CodL.yN
def tab : Cond := tabOf yN yB 6 none site
def P (a : Addr) (D : Cell) (fV fC : Field) (b : Addr) (A : Cell) (z : Int32) (o len : Nat) (args : Array Value) (s : State) : Prop := args = #[.ref a, .ref b, .int (Int32.ofNat o), .int (Int32.ofNat len), .null] ∧ Blank "java/lang/String" a D s ∧ Found "java/lang/String" "value" "[B" fV s ∧ Found "java/lang/String" "coder" "B" fC s ∧ Ch b A s ∧ StaticIs s "java/lang/String" "COMPACT_STRINGS" "Z" (.int z) ∧ ¬ z = 0 ∧ 0 < len ∧ o + len ≤ A.slots.size ∧ len ≤ 536870912 ∧ ∀ i, i < len → ¬ 255 < cv A (o + i)
def E (a : Addr) (D : Cell) (fV fC : Field) (A : Cell) (o len : Nat) (r : Option Value) (s u : State) : Prop := Got a D fV fC A o len r s u
/-- len > 0, no char of the range above 255: a Latin-1 String of their low bytes -/
theorem law (l : Launch) (a : Addr) (D : Cell) (fV fC : Field) (b : Addr) (A : Cell) (z : Int32) (o len : Nat) : Law l yN 5 4 2 35 yB 6 none site (P a D fV fC b A z o len) (E a D fV fC A o len) [⟨a, fC.slot⟩, ⟨a, fV.slot⟩] 1 len := by
  refine Law.of_walk (plainFor_of_name (by decide +kernel)) (by decide +kernel) (by decide +kernel) (by decide) (fun _ _ h => by rw [h.1]; rfl) (fun _ U U' hal hh h => ⟨h.1, h.2.1.mv hal hh, h.2.2.1.al hal, h.2.2.2.1.al hal, h.2.2.2.2.1.mv hal hh, h.2.2.2.2.2.1.there hal hh, h.2.2.2.2.2.2⟩) (fun r U U' V V' h1 hal h2 h => Got.mv r U U' V V' h1 hal h2 h) ?_
  intro p e s m args below meth c s₁ X0 hexec hbytes hml hret hlk hnm hown hh0 W hP
  obtain ⟨rfl, hB, f1, f2, hA, s1, hz, l0, l1, l2, hp⟩ := hP
  have a31 := hA.1.2.2.2
  have c1 : Steps p.tables e below (s₁.setTop (entryFrame m #[.ref a, .ref b, .int (Int32.ofNat o), .int (Int32.ofNat len), .null] 6)) (s₁.setTop (mkF m 0 #[.val (.ref a), .val (.ref b), .val (.int (Int32.ofNat o)), .val (.int (Int32.ofNat len)), .val .null, .unset] [])) := entry rfl
  have c2 : Steps p.tables e below (s₁.setTop (entryFrame m #[.ref a, .ref b, .int (Int32.ofNat o), .int (Int32.ofNat len), .null] 6)) (s₁.setTop (mkF m 1 #[.val (.ref a), .val (.ref b), .val (.int (Int32.ofNat o)), .val (.int (Int32.ofNat len)), .val .null, .unset] [.ref a])) := c1.trans (by
    refine XS.aloadN X0.here hexec rfl (hb hbytes d0) rfl rfl ?_
    exact Steps.refl _)
  obtain ⟨T3, X3, q3, st3⟩ := X0.oinit hexec hown (wks W (objW "java/lang/String" 1)) (g := (mkF m 1 #[.val (.ref a), .val (.ref b), .val (.int (Int32.ofNat o)), .val (.int (Int32.ofNat len)), .val .null, .unset] [.ref a])) rfl (by rw [hml]; rfl) (rest := []) rfl (hb hbytes d1) (W := 0) (by show 2 * 0 + 0 ≤ _; decide) (Nat.le_of_ble_eq_true rfl) (Nat.le_of_ble_eq_true rfl)
  have hh3 := q3.trans hh0
  have c4 : Steps p.tables e below (s₁.setTop (entryFrame m #[.ref a, .ref b, .int (Int32.ofNat o), .int (Int32.ofNat len), .null] 6)) (T3.setTop (mkF m 27 #[.val (.ref a), .val (.ref b), .val (.int (Int32.ofNat o)), .val (.int (Int32.ofNat len)), .val .null, .unset] [])) := (c2.trans (st3 _ (Steps.refl _))).trans (by
    refine XS.iloadN X3.here hexec rfl (hb hbytes d4) rfl ?_
    refine XS.ifYes X3.here hexec rfl (pc0 := 5) rfl (hb hbytes d5) rfl (i0_ne_t (nz32 (by omega) l0)) (by decide) rfl ?_
    exact Steps.refl _)
  obtain ⟨T5, X5, q5, st5⟩ := X3.sget hexec hown (wk W (.fieldLink "java/lang/String" 38 "java/lang/String" "COMPACT_STRINGS" "Z")) s1 (fun _ _ h => by rw [hh3]; exact h) (g := (mkF m 27 #[.val (.ref a), .val (.ref b), .val (.int (Int32.ofNat o)), .val (.int (Int32.ofNat len)), .val .null, .unset] [])) rfl (hb hbytes d27)
  have hh5 := q5.trans hh3
  have c6 : Steps p.tables e below (s₁.setTop (entryFrame m #[.ref a, .ref b, .int (Int32.ofNat o), .int (Int32.ofNat len), .null] 6)) (T5.setTop (mkF m 30 #[.val (.ref a), .val (.ref b), .val (.int (Int32.ofNat o)), .val (.int (Int32.ofNat len)), .val .null, .unset] [.int z])) := c4.trans (st5 _ (Steps.refl _))
  have c7 : Steps p.tables e below (s₁.setTop (entryFrame m #[.ref a, .ref b, .int (Int32.ofNat o), .int (Int32.ofNat len), .null] 6)) (T5.setTop (mkF m 36 #[.val (.ref a), .val (.ref b), .val (.int (Int32.ofNat o)), .val (.int (Int32.ofNat len)), .val .null, .unset] [.int (Int32.ofNat len), .int (Int32.ofNat o), .ref b])) := c6.trans (by
    refine XS.ifNo X5.here hexec rfl (hb hbytes d30) rfl (i0_eq_f hz) ?_
    refine XS.aloadN X5.here hexec rfl (hb hbytes d33) rfl rfl ?_
    refine XS.iloadN X5.here hexec rfl (hb hbytes d34) rfl ?_
    refine XS.iloadN X5.here hexec rfl (hb hbytes d35) rfl ?_
    exact Steps.refl _)
  obtain ⟨v8, T8, X8, E8, g8⟩ := X5.callS hexec (Cmp3.law l b A o len) hown (wks W (staticW "java/lang/String" 177 Cmp3.yN)) (wk W Cmp3.tab) (W := 0) (Nat.le_of_ble_eq_true rfl) (Nat.le_of_ble_eq_true rfl) (Nat.le_refl _) (by show 0 + len ≤ len; omega) (g := (mkF m 36 #[.val (.ref a), .val (.ref b), .val (.int (Int32.ofNat o)), .val (.int (Int32.ofNat len)), .val .null, .unset] [.int (Int32.ofNat len), .int (Int32.ofNat o), .ref b])) rfl (by rw [hml]; rfl) c7 (argsL := [.ref b, .int (Int32.ofNat o), .int (Int32.ofNat len)]) (rest := []) rfl rfl (by show 2 * 0 + 0 ≤ _; decide) (hb hbytes d36) (⟨rfl, hA.mv X5.warmed.alike hh5, l1, l2, hp⟩)
  obtain ⟨e8, z8⟩ := E8
  obtain ⟨rfl, N, n1, n2, n3, n4, n5, n6⟩ := NewArr.mv _ T5 s _ _ hh5.symm (Vm.Alike.refl _) rfl e8
  rw [hh5] at z8
  have hB1 := hB.keep X8.warmed.alike (n6 _ _ hB.1)
  have hne : s.heap.size ≠ a := (Nat.ne_of_lt (Array.getElem?_eq_some_iff.mp hB.1).1).symm
  have c9 : Steps p.tables e below (s₁.setTop (entryFrame m #[.ref a, .ref b, .int (Int32.ofNat o), .int (Int32.ofNat len), .null] 6)) (T8.setTop (mkF m 39 #[.val (.ref a), .val (.ref b), .val (.int (Int32.ofNat o)), .val (.int (Int32.ofNat len)), .val .null, .unset] [.ref s.heap.size])) := g8
  have c10 : Steps p.tables e below (s₁.setTop (entryFrame m #[.ref a, .ref b, .int (Int32.ofNat o), .int (Int32.ofNat len), .null] 6)) (T8.setTop (mkF m 45 #[.val (.ref a), .val (.ref b), .val (.int (Int32.ofNat o)), .val (.int (Int32.ofNat len)), .val .null, .val (.ref s.heap.size)] [.int (Int32.ofNat N.slots.size), .ref s.heap.size, .ref a])) := by
    have hc : Steps p.tables e below (s₁.setTop (entryFrame m #[.ref a, .ref b, .int (Int32.ofNat o), .int (Int32.ofNat len), .null] 6)) (T8.setTop (mkF m 45 #[.val (.ref a), .val (.ref b), .val (.int (Int32.ofNat o)), .val (.int (Int32.ofNat len)), .val .null, .val (.ref s.heap.size)] [.int (Int32.ofNat len), .ref s.heap.size, .ref a])) := c9.trans (by
      refine XS.astore X8.here hexec rfl (hb hbytes d39) rfl rfl rfl ?_
      refine XS.aloadN X8.here hexec rfl (hb hbytes d41) rfl rfl ?_
      refine XS.aload X8.here hexec rfl (hb hbytes d42) rfl rfl ?_
      refine XS.iloadN X8.here hexec rfl (hb hbytes d44) rfl ?_
      exact Steps.refl _)
    rw [n4]; exact hc
  obtain ⟨v11, T11, X11, E11, g11⟩ := X8.callS hexec (CodL.law l s.heap.size N) hown (wks W (staticW "java/lang/String" 47 CodL.yN)) (wk W CodL.tab) (W := 1) (Nat.le_of_ble_eq_true rfl) (Nat.le_of_ble_eq_true rfl) (Nat.le_refl _) (by show 0 + len + 0 ≤ len; omega) (g := (mkF m 45 #[.val (.ref a), .val (.ref b), .val (.int (Int32.ofNat o)), .val (.int (Int32.ofNat len)), .val .null, .val (.ref s.heap.size)] [.int (Int32.ofNat N.slots.size), .ref s.heap.size, .ref a])) rfl (by rw [hml]; rfl) c10 (argsL := [.ref s.heap.size, .int (Int32.ofNat N.slots.size)]) (rest := [.ref a]) rfl rfl (by show 2 * 0 + (1 + 0) ≤ _; decide) (hb hbytes d45) (⟨rfl, n1⟩)
  obtain ⟨rfl, q11⟩ := E11
  have hB11 := hB1.mv (X8.warmed.alike.symm.trans X11.warmed.alike) q11
  have c12 : Steps p.tables e below (s₁.setTop (entryFrame m #[.ref a, .ref b, .int (Int32.ofNat o), .int (Int32.ofNat len), .null] 6)) (T11.setTop (mkF m 48 #[.val (.ref a), .val (.ref b), .val (.int (Int32.ofNat o)), .val (.int (Int32.ofNat len)), .val .null, .val (.ref s.heap.size)] [.int 0, .ref a])) := g11
  obtain ⟨T13, X13, p13, bl13, sl13, st13⟩ := X11.finit hexec hown (wk W (.fieldLink "java/lang/String" 15 "java/lang/String" "coder" "B")) (Or.inr ⟨_, (wk W (.laysFinal "java/lang/String" "java/lang/String" "coder" "B"))⟩) (Or.inl ⟨rfl, hnm⟩) f2 (Or.inl rfl) hB11 (t := .byte) (by decide +kernel) rfl (g := (mkF m 48 #[.val (.ref a), .val (.ref b), .val (.int (Int32.ofNat o)), .val (.int (Int32.ofNat len)), .val .null, .val (.ref s.heap.size)] [.int 0, .ref a])) rfl (rest := []) rfl (hb hbytes d48)
  have c14 : Steps p.tables e below (s₁.setTop (entryFrame m #[.ref a, .ref b, .int (Int32.ofNat o), .int (Int32.ofNat len), .null] 6)) (T13.setTop (mkF m 54 #[.val (.ref a), .val (.ref b), .val (.int (Int32.ofNat o)), .val (.int (Int32.ofNat len)), .val .null, .val (.ref s.heap.size)] [.ref s.heap.size, .ref a])) := (c12.trans (st13 _ (Steps.refl _))).trans (by
    refine XS.aloadN X13.here hexec rfl (hb hbytes d51) rfl rfl ?_
    refine XS.aload X13.here hexec rfl (hb hbytes d52) rfl rfl ?_
    exact Steps.refl _)
  obtain ⟨T15, X15, p15, bl15, sl15, st15⟩ := X13.finit hexec hown (wk W (.fieldLink "java/lang/String" 9 "java/lang/String" "value" "[B")) (Or.inr ⟨_, (wk W (.laysFinal "java/lang/String" "java/lang/String" "value" "[B"))⟩) (Or.inl ⟨rfl, hnm⟩) f1 (Or.inl rfl) bl13 (t := (.array .byte)) (by decide +kernel) rfl (g := (mkF m 54 #[.val (.ref a), .val (.ref b), .val (.int (Int32.ofNat o)), .val (.int (Int32.ofNat len)), .val .null, .val (.ref s.heap.size)] [.ref s.heap.size, .ref a])) rfl (rest := []) rfl (hb hbytes d54)
  have c16 : Steps p.tables e below (s₁.setTop (entryFrame m #[.ref a, .ref b, .int (Int32.ofNat o), .int (Int32.ofNat len), .null] 6)) (T15.setTop (mkF m 57 #[.val (.ref a), .val (.ref b), .val (.int (Int32.ofNat o)), .val (.int (Int32.ofNat len)), .val .null, .val (.ref s.heap.size)] [])) := c14.trans (st15 _ (Steps.refl _))
  have ap := apart (Or.inr ⟨_, (wk W (.laysFinal "java/lang/String" "java/lang/String" "value" "[B"))⟩) (Or.inr ⟨_, (wk W (.laysFinal "java/lang/String" "java/lang/String" "coder" "B"))⟩) f1 f2 (t₁ := .array .byte) (t₂ := .byte) (by decide +kernel) (by decide +kernel) (by decide)
  have al := X8.warmed.alike.symm.trans X15.warmed.alike
  have n7 : T11.heap[s.heap.size]? = some N := by rw [q11]; exact n1.1
  exact ⟨T15, none, _, _, _, X15, by simp, rfl, by omega, (fun _ => rfl), ⟨rfl, _, N, bl15, ((Same.refl D _).set _ (by simp)).set _ (by simp), sl15, (Cell.slots_setSlot_ne _ ap).trans sl13, n1.keep al (p15.other hne (p13.other hne n7)), n2, by rw [al.findClass]; exact n3, n4, n5, fun y c h1 h2 => p15.other h1 (p13.other h1 (by rw [q11]; exact n6 y c h2)), by rw [p15.2.2, p13.2.2, q11]; exact z8⟩, fun fs hl => c16.trans (X15.returnOut hexec hret (hb hbytes d57) hl)⟩
end New4
namespace New1
def yN : MethodName := ⟨"java/lang/String", "<init>", "([C)V"⟩
abbrev yB : ByteArray := jdk_42_method_3_code
theorem d0 : decode yB 0 = .ok (.aload_n 0, 1) := by decide +kernel
theorem d1 : decode yB 1 = .ok (.aload_n 1, 1) := by decide +kernel
theorem d2 : decode yB 2 = .ok (.iconst 0, 1) := by decide +kernel
theorem d3 : decode yB 3 = .ok (.aload_n 1, 1) := by decide +kernel
theorem d4 : decode yB 4 = .ok (.arraylength, 1) := by decide +kernel
theorem d5 : decode yB 5 = .ok (.aconst_null, 1) := by decide +kernel
theorem d6 : decode yB 6 = .ok (.invokespecial 27, 3) := by decide +kernel
theorem d9 : decode yB 9 = .ok (.return_, 1) := by decide +kernel
def site : List Cond := [New4.tab] ++ initW "java/lang/String" 27 New4.yN
def tab : Cond := tabOf yN yB 2 none site
def P (a : Addr) (D : Cell) (fV fC : Field) (b : Addr) (A : Cell) (z : Int32) (args : Array Value) (s : State) : Prop := args = #[.ref a, .ref b] ∧ Blank "java/lang/String" a D s ∧ Found "java/lang/String" "value" "[B" fV s ∧ Found "java/lang/String" "coder" "B" fC s ∧ Ch b A s ∧ StaticIs s "java/lang/String" "COMPACT_STRINGS" "Z" (.int z) ∧ ¬ z = 0 ∧ 0 < A.slots.size ∧ A.slots.size ≤ 536870912 ∧ ∀ i, i < A.slots.size → ¬ 255 < cv A i
def E (a : Addr) (D : Cell) (fV fC : Field) (A : Cell) (r : Option Value) (s u : State) : Prop := Got a D fV fC A 0 A.slots.size r s u
/-- new String(chars), not empty, no char above 255: a Latin-1 String of their low bytes -/
theorem law (l : Launch) (a : Addr) (D : Cell) (fV fC : Field) (b : Addr) (A : Cell) (z : Int32) : Law l yN 2 1 3 52 yB 2 none site (P a D fV fC b A z) (E a D fV fC A) [⟨a, fC.slot⟩, ⟨a, fV.slot⟩] 1 A.slots.size := by
  refine Law.of_walk (plainFor_of_name (by decide +kernel)) (by decide +kernel) (by decide +kernel) (by decide) (fun _ _ h => by rw [h.1]; rfl) (fun _ U U' hal hh h => ⟨h.1, h.2.1.mv hal hh, h.2.2.1.al hal, h.2.2.2.1.al hal, h.2.2.2.2.1.mv hal hh, h.2.2.2.2.2.1.there hal hh, h.2.2.2.2.2.2⟩) (fun r U U' V V' h1 hal h2 h => Got.mv r U U' V V' h1 hal h2 h) ?_
  intro p e s m args below meth c s₁ X0 hexec hbytes hml hret hlk hnm hown hh0 W hP
  obtain ⟨rfl, hB, f1, f2, hA, s1, hz, l0, l2, hp⟩ := hP
  have c1 : Steps p.tables e below (s₁.setTop (entryFrame m #[.ref a, .ref b] 2)) (s₁.setTop (mkF m 0 #[.val (.ref a), .val (.ref b)] [])) := entry rfl
  have c2 : Steps p.tables e below (s₁.setTop (entryFrame m #[.ref a, .ref b] 2)) (s₁.setTop (mkF m 6 #[.val (.ref a), .val (.ref b)] [.null, .int (Int32.ofNat A.slots.size), .int 0, .ref b, .ref a])) := c1.trans (by
    refine XS.aloadN X0.here hexec rfl (hb hbytes d0) rfl rfl ?_
    refine XS.aloadN X0.here hexec rfl (hb hbytes d1) rfl rfl ?_
    refine iconstV X0.here hexec rfl 0 (hb hbytes d2) (by decide) ?_
    refine XS.aloadN X0.here hexec rfl (hb hbytes d3) rfl rfl ?_
    refine X0.alen hexec (hA.1.mv X0.warmed.alike hh0) rfl rfl (hb hbytes d4) ?_
    refine XS.aconstNull X0.here hexec rfl (hb hbytes d5) ?_
    exact Steps.refl _)
  obtain ⟨v3, T3, X3, E3, g3⟩ := X0.callN hexec (New4.law l a D fV fC b A z 0 A.slots.size) rfl hown (wks W (initW "java/lang/String" 27 New4.yN)) (W New4.tab (by simp only [site, List.mem_cons, List.mem_append, true_or, or_true])) (W := 0) (Nat.le_of_ble_eq_true rfl) (Nat.le_of_ble_eq_true rfl) (Nat.le_refl _) (by show 0 + A.slots.size ≤ A.slots.size; omega) (g := (mkF m 6 #[.val (.ref a), .val (.ref b)] [.null, .int (Int32.ofNat A.slots.size), .int (Int32.ofNat 0), .ref b, .ref a])) rfl (by rw [hml]; rfl) c2 (argsL := [.ref b, .int (Int32.ofNat 0), .int (Int32.ofNat A.slots.size), .null]) (rest := []) rfl rfl (by show 2 * 0 + 0 ≤ _; decide) (hb hbytes d6) (⟨rfl, hB.mv X0.warmed.alike hh0, f1.al X0.warmed.alike, f2.al X0.warmed.alike, hA.mv X0.warmed.alike hh0, s1.there X0.warmed.alike hh0, hz, l0, by omega, l2, fun i hi => by rw [Nat.zero_add]; exact hp i hi⟩)
  have e0 := Got.mv _ s₁ s _ _ hh0.symm (Vm.Alike.refl _) rfl E3
  obtain rfl := e0.1
  have c4 : Steps p.tables e below (s₁.setTop (entryFrame m #[.ref a, .ref b] 2)) (T3.setTop (mkF m 9 #[.val (.ref a), .val (.ref b)] [])) := g3
  exact ⟨T3, none, _, _, _, X3, by simp, rfl, by omega, (fun _ => rfl), e0, fun fs hl => c4.trans (X3.returnOut hexec hret (hb hbytes d9) hl)⟩
theorem pays {l : Launch} {R : Room} {p : Program} {e : Env} {below : List Frame} {s : State} {sargs : Array Value} {len W : Nat} (a : Addr) (D : Cell) (fV fC : Field) (b : Addr) (A : Cell) (z : Int32) (htab : tab.before sargs s = true) (hfr : 4 ≤ R.frames) (hlo : W + 65 ≤ R.locals) :
    Back l R p e below s sargs yN len W (fun A₁ a₁ => A₁.cells + 1 ≤ R.cells ∧ A₁.slots + A.slots.size ≤ R.slots ∧ P a D fV fC b A z a₁ A₁.U) (fun A₁ _ v₁ B₁ => E a D fV fC A v₁ A₁.U B₁.U ∧ B₁.locs = A₁.locs ++ [⟨a, fC.slot⟩, ⟨a, fV.slot⟩] ∧ B₁.cells = A₁.cells + 1 ∧ B₁.slots = A₁.slots + A.slots.size) :=
  (law l a D fV fC b A z).pays htab hfr (by omega)
end New1
/-- the byte, read back as charAt reads it, is the char -/
theorem lo8_mask {x : Int32} (h0 : ¬ x < 0) (h1 : ¬ 255 < x) : lo8 x &&& 255 = x := by
  have t : ∀ k : Fin 256, lo8 (Int32.ofNat k.val) &&& 255 = Int32.ofNat k.val := by decide +kernel
  rw [Int32.lt_iff_toInt_lt] at h0 h1
  have e0 : (0 : Int32).toInt = 0 := rfl
  have e1 : (255 : Int32).toInt = 255 := rfl
  obtain ⟨k, hk⟩ : ∃ k : Nat, x.toInt = k := ⟨x.toInt.toNat, by omega⟩
  have hx : x = Int32.ofNat k := Int32.toInt_inj.mp (by rw [hk, Int32.toInt_ofNat_small (by omega)])
  rw [hx]
  exact t ⟨k, by omega⟩
end StrChars
namespace StrChars.Road
open Jvm Sem ClassFile Op Lib Jvm.Stand Jvm.Free Jvm.Free.XT
open Jvm.Lib.Cold (StaticIs)
abbrev ST : String := "java/lang/String"
/-- every table word that New1's law asks, flat -/
abbrev words : List Jvm.Cond := [.code New1.yN New1.yB 2 none, .initialized ST, .methodLink ST 27 New4.yN, .instanceMethod New4.yN,
  .code New4.yN New4.yB 6 none, .fieldLink ST 38 ST "COMPACT_STRINGS" "Z", .laysFinal ST ST "value" "[B", .fieldLink ST 9 ST "value" "[B", .laysFinal ST ST "coder" "B", .fieldLink ST 15 ST "coder" "B",
  .methodLink ST 1 Lib.objectInit, .instanceMethod Lib.objectInit, .code Lib.objectInit ⟨#[0xb1]⟩ 1 none, .methodLink ST 177 Cmp3.yN, .static Cmp3.yN, .methodLink ST 47 CodL.yN, .static CodL.yN,
  .code Cmp3.yN Cmp3.yB 6 (some (.array .byte)), .initialized U16, .arrayClass .byte, .methodLink U16 115 Cmp5.yN, .static Cmp5.yN, .code Cmp5.yN Cmp5.yB 7 (some .int), .code CodL.yN CodL.yB 2 (some .byte)]
theorem tab_of {a : Array Value} {s : State} (h : ∀ w ∈ words, w.before a s = true) : New1.tab.before a s = true := by
  have h5 : Cmp5.tab.before a s = true := unparts (wk h (.code Cmp5.yN Cmp5.yB 7 (some .int))) (wks h (.initialized Cmp5.yN.cls :: Cmp5.site))
  have hc : CodL.tab.before a s = true := unparts (wk h (.code CodL.yN CodL.yB 2 (some .byte))) (wks h (.initialized CodL.yN.cls :: CodL.site))
  have q5 : ∀ w ∈ Cmp5.tab :: words, w.before a s = true := fun w hw => (List.mem_cons.mp hw).elim (fun e => e ▸ h5) (h w)
  have h3 : Cmp3.tab.before a s = true := unparts (wk q5 (.code Cmp3.yN Cmp3.yB 6 (some (.array .byte)))) (wks q5 (.initialized Cmp3.yN.cls :: Cmp3.site))
  have q3 : ∀ w ∈ Cmp3.tab :: CodL.tab :: words, w.before a s = true := fun w hw => (List.mem_cons.mp hw).elim (fun e => e ▸ h3) fun hw => (List.mem_cons.mp hw).elim (fun e => e ▸ hc) (h w)
  have h4 : New4.tab.before a s = true := unparts (wk q3 (.code New4.yN New4.yB 6 none)) (wks q3 (.initialized New4.yN.cls :: New4.site))
  have q4 : ∀ w ∈ New4.tab :: words, w.before a s = true := fun w hw => (List.mem_cons.mp hw).elim (fun e => e ▸ h4) (h w)
  exact unparts (wk q4 (.code New1.yN New1.yB 2 none)) (wks q4 (.initialized New1.yN.cls :: New1.site))
/-- the words ride from the start Z to the walk's own state -/
theorem moved {Z s : State} {a0 args : Array Value} (hZ : Z.Warmed39 s.vm) (hw : ∀ d ∈ words, d.before a0 Z = true) : ∀ d ∈ words, d.before args s = true := fun d hd => by
  have q := hw d hd
  have t : ∀ d ∈ words, d = .arrayClass .byte ∨ (d.onTables && d.keepsFace) = true := by decide +kernel
  rcases t d hd with rfl | t
  · exact RoadKit.mvA hZ q
  · exact RoadKit.mv hZ q t
/-- WHAT COMES BACK, over the tables of the start Z: h the heap at the call, h' behind it -/
def Q (Z : State) (x : Addr) (A : Cell) (h : Heap) (v : Option Value) (h' : Heap) (L : List Loc) : Prop := v = none ∧ (∀ y ∈ L, y.base = x) ∧ RoadKit.Keep h h' [x] ∧ h'.size = h.size + 1 ∧ RoadKit.Exa Z h' x ST ∧ RoadKit.Fld Z h' x ST "value" "[B" (.ref h.size) ∧ RoadKit.Fld Z h' x ST "coder" "B" (.int 0) ∧
  (∃ V : Cell, RoadKit.Arr Z h' h.size V .byte ∧ V.vm = .none ∧ Z.vm.findClass "[B" = some V.cls ∧ V.slots.size = A.slots.size ∧ ∀ j, j < A.slots.size → V.slots[j]? = some (.int (lo8 (cv A j)))) ∧
  ∀ (O n d : String) (w : Value), RoadKit.Fld Z h x O n d w → RoadKit.slotOf Z O n d ≠ RoadKit.slotOf Z ST "value" "[B" → RoadKit.slotOf Z O n d ≠ RoadKit.slotOf Z ST "coder" "B" → RoadKit.Fld Z h' x O n d w
/-- **new String(chars) AT A CALL, IN THE ROAD'S FORM**: for specialBack behind newO: x the fresh String, b the char[] with the cell A -/
theorem back {p : Program} {l : Launch} {e : Env} {R : Room} {s : State} {args : Array Value} {below : List Frame} {len W : Nat} {Z : State} {a0 : Array Value} {h : Heap} (hZ : Z.Warmed39 s.vm) (hw : ∀ d ∈ words, d.before a0 Z = true) {kI : Nat} (wi : (Jvm.Cond.instantiable ST kI).before a0 Z = true)
    {x b : Addr} {A : Cell} {z : Int32} {v0 c0 : Value} (E : RoadKit.Exa Z h x ST) (V : RoadKit.Fld Z h x ST "value" "[B" v0) (C : RoadKit.Fld Z h x ST "coder" "B" c0) (K : RoadKit.Arr Z h b A .char) (hty : Typed .char A) (S : RoadKit.Sta Z h ST "COMPACT_STRINGS" "Z" (.int z)) (hz : ¬ z = 0)
    (l0 : 0 < A.slots.size) (l2 : A.slots.size ≤ 536870912) (hp : ∀ i, i < A.slots.size → ¬ 255 < cv A i) (hfr : 4 ≤ R.frames) (hlo : W + 65 ≤ R.locals) :
    Back l R p e below s args New1.yN len W (fun P a => a = #[.ref x, .ref b] ∧ P.U.heap = h ∧ P.cells + 1 ≤ R.cells ∧ P.slots + A.slots.size ≤ R.slots)
      (fun P _ v B => ∃ L, Q Z x A h v B.U.heap L ∧ B.locs = P.locs ++ L ∧ B.cells = P.cells + 1 ∧ B.slots = P.slots + A.slots.size) := by
  intro m meth c P g ig mk a X hg hsize hdg hW hn hp'
  obtain ⟨rfl, rfl, r1, r2⟩ := hp'
  have al : Z.vm.Alike P.U.vm := hZ.alike.trans X.warmed.alike
  obtain ⟨D, cfV, kV, iV, fV, hD, gV, stV, knV, obV, asV, slV⟩ := id V
  obtain ⟨D', cfC, kC, iC, fC, hD', gC, stC, -, -, asC, slC⟩ := id C
  cases hD.symm.trans hD'
  obtain ⟨D2, kD, e1, e2, e3, e4, e5⟩ := id E
  cases hD.symm.trans e1
  obtain ⟨c2, k2, i1, i2, i3, -⟩ := Cond.instantiable_spec wi
  cases e2.symm.trans i1
  cases e3.symm.trans i2
  obtain ⟨kU, u1, u2⟩ := al.2.2 _ _ e3
  have hB : Blank ST x D P.U := ⟨hD, ⟨knV, fun q hq => by rw [hq] at obV; cases obV⟩, by rw [al.findClass]; exact e2, kU, u1, by rw [u2]; exact i3, by rw [u2]; exact e5 i3⟩
  have F1 : Found ST "value" "[B" fV P.U := ⟨SBG.found_only al ⟨cfV, kV, iV, gV⟩, stV⟩
  have F2 : Found ST "coder" "B" fC P.U := ⟨SBG.found_only al ⟨cfC, kC, iC, gC⟩, stC⟩
  have hA : Ch b A P.U := ⟨⟨K.1, State.isArrayOf_alike al K.2.1, K.2.2, by omega⟩, hty⟩
  have hS : StaticIs P.U ST "COMPACT_STRINGS" "Z" (.int z) := by
    obtain ⟨cfS, iS, kS, fS, st, cS, t1, t2, t3, t4, t5, t6, t7⟩ := S
    exact StaticIs.there (s := { Z with heap := P.U.heap }) ⟨cfS, iS, kS, fS, st, cS, t1, t2, t3, t4, t5, (fun q => by rw [q] at t6; cases t6), t7⟩ al rfl
  obtain ⟨v, B, X', ⟨⟨hv, E', V', q1, q2, q3, q4, q5, q6, q7, q8, q9, q10, q11⟩, hl, hc, hs⟩, st⟩ := New1.pays x D fV fC b A z (tab_of (moved hZ hw)) hfr hlo m meth c P g ig mk _ X hg hsize hdg hW hn ⟨r1, r2, rfl, hB, F1, F2, hA, hS, hz, l0, l2, hp⟩
  have al' : Z.vm.Alike B.U.vm := hZ.alike.trans X'.warmed.alike
  have hsz : E'.slots.size = D.slots.size := by
    obtain ⟨-, -, -, kB, w1, w2, w3⟩ := q1
    obtain ⟨kB', y1, y2⟩ := al'.2.2 _ _ e3
    rw [q2.2.1] at w1
    cases w1.symm.trans y1
    rw [w3, e5 i3, y2]
  refine ⟨v, B, X', ⟨_, ⟨hv, ?_, ⟨by omega, fun y cy hy hn' => q10 y cy (by simpa using hn') hy, fun y cy hy => ?_⟩, q11, ⟨E', _, q1.1, by rw [q2.2.1]; exact e2, by rw [q2.2.1]; exact e3, by rw [q2.1]; exact obV, fun _ => by rw [hsz]; exact e5 i3⟩,
    ⟨E', cfV, kV, iV, fV, q1.1, gV, stV, by rw [q2.1]; exact knV, by rw [q2.1]; exact obV, by rw [q2.2.1]; exact asV, q3⟩, ⟨E', cfC, kC, iC, fC, q1.1, gC, stC, by rw [q2.1]; exact knV, by rw [q2.1]; exact obV, by rw [q2.2.1]; exact asC, q4⟩,
    ⟨V', ⟨q5.1, State.isArrayOf_alike al'.symm q5.2.1, q5.2.2.1⟩, q6, by rw [← al'.findClass]; exact q7, q8, fun j hj => by have := q9 j hj; rwa [Nat.zero_add] at this⟩, fun O n d w F n1 n2 => ?_⟩, hl, hc, hs⟩, st⟩
  · intro y hy
    simp only [List.mem_cons, List.not_mem_nil, or_false] at hy
    rcases hy with rfl | rfl <;> rfl
  · by_cases q : y = x
    · subst q
      cases hD.symm.trans hy
      exact ⟨E', q1.1, q2.2.1, q2.1, hsz⟩
    · exact ⟨cy, q10 y cy q hy, rfl, rfl, rfl⟩
  · obtain ⟨D3, cf, k, i, f, g1, g2, g3, g4, g5, g6, g7⟩ := F
    cases hD.symm.trans g1
    simp only [RoadKit.slotOf, g2, gV, gC, Option.map_some, Option.getD_some] at n1 n2
    exact ⟨E', cf, k, i, f, q1.1, g2, g3, by rw [q2.1]; exact g4, by rw [q2.1]; exact g5, by rw [q2.2.1]; exact g6, by rw [q2.2.2 f.slot (by simp [n1, n2])]; exact g7⟩
end StrChars.Road
namespace StrChars.Road
open Jvm Sem ClassFile Op Lib Jvm.Stand Jvm.Free Jvm.Free.XT
/-- WHAT COMES BACK, the byte[] as a list of values -/
def QA (Z : State) (x : Addr) (zn : Int32) (cs : List Int32) (h : Heap) (v : Option Value) (h' : Heap) (L : List Loc) : Prop := v = none ∧ (∀ y ∈ L, y.base = x) ∧ RoadKit.Keep h h' [x] ∧ h'.size = h.size + 1 ∧ RoadKit.Exa Z h' x ST ∧ RoadKit.Fld Z h' x ST "value" "[B" (.ref h.size) ∧ RoadKit.Fld Z h' x ST "coder" "B" (.int 0) ∧
  (∃ kb, Z.vm.findClass "[B" = some kb ∧ RoadKit.Arv Z h' h.size kb .byte zn (cs.map fun c => .int (lo8 c)) (.int 0)) ∧
  ∀ (O n d : String) (w : Value), RoadKit.Fld Z h x O n d w → RoadKit.slotOf Z O n d ≠ RoadKit.slotOf Z ST "value" "[B" → RoadKit.slotOf Z O n d ≠ RoadKit.slotOf Z ST "coder" "B" → RoadKit.Fld Z h' x O n d w
/-- **new String(chars) AT A CALL, THE ARRAYS AS LISTS**: the char[] at b holds cs, not empty, no char above 255 -/
theorem backArv {p : Program} {l : Launch} {e : Env} {R : Room} {s : State} {args : Array Value} {below : List Frame} {len W : Nat} {Z : State} {a0 : Array Value} {h : Heap} (hZ : Z.Warmed39 s.vm) (hw : ∀ d ∈ words, d.before a0 Z = true) {kI : Nat} (wi : (Jvm.Cond.instantiable ST kI).before a0 Z = true)
    {x b : Addr} {k : ClassId} {zn z : Int32} {cs : List Int32} {dv v0 c0 : Value} (E : RoadKit.Exa Z h x ST) (V : RoadKit.Fld Z h x ST "value" "[B" v0) (C : RoadKit.Fld Z h x ST "coder" "B" c0) (K : RoadKit.Arv Z h b k .char zn (cs.map Value.int) dv) (S : RoadKit.Sta Z h ST "COMPACT_STRINGS" "Z" (.int z)) (hz : ¬ z = 0)
    (hlen : zn.toNatClampNeg = cs.length) (h0 : 0 < cs.length) (hbig : cs.length ≤ 536870912) (hall : ∀ c ∈ cs, ¬ 255 < c) (hfr : 4 ≤ R.frames) (hlo : W + 65 ≤ R.locals) :
    Back l R p e below s args New1.yN len W (fun P a => a = #[.ref x, .ref b] ∧ P.U.heap = h ∧ P.cells + 1 ≤ R.cells ∧ P.slots + cs.length ≤ R.slots)
      (fun P _ v B => ∃ L, QA Z x zn cs h v B.U.heap L ∧ B.locs = P.locs ++ L ∧ B.cells = P.cells + 1 ∧ B.slots = P.slots + cs.length) := by
  obtain ⟨A, K1, K2, K3, K4, K5, K6⟩ := K
  have e : A.slots.size = cs.length := K3.trans hlen
  have hat : ∀ (i : Nat) (hi : i < cs.length), A.slots[i]? = some (.int cs[i]) := fun i hi => by rw [K5 i (by omega)]; simp [List.getD_eq_getElem?_getD, hi]
  have hcv : ∀ (i : Nat) (hi : i < cs.length), cv A i = cs[i] := fun i hi => by unfold cv; rw [hat i hi]
  have hty : Typed .char A := fun i v hv => by
    have hi : i < A.slots.size := (Array.getElem?_eq_some_iff.mp hv).1
    have q := K5 i hi
    rw [hv] at q
    rw [Option.some.inj q]
    exact K6 i hi
  refine Back.mono (back hZ hw wi E V C K1 hty S hz (by omega) (by omega) (fun i hi => by rw [hcv i (by omega)]; exact hall _ (List.getElem_mem _)) hfr hlo) (fun P a hp => ⟨hp.1, hp.2.1, hp.2.2.1, by rw [e]; exact hp.2.2.2⟩) (fun P a v B hp hq => ?_)
  obtain ⟨L, ⟨q1, q2, q3, q4, q5, q6, q7, ⟨V', v1, v2, v3, v4, v5⟩, q9⟩, hl, hc, hs⟩ := hq
  refine ⟨L, ⟨q1, q2, q3, q4, q5, q6, q7, ⟨V'.cls, v3, V', v1, rfl, by rw [v4, e, hlen], K4, fun i hi => ?_, fun i hi => ?_⟩, q9⟩, hl, hc, by rw [hs, e]⟩
  · have hi' : i < cs.length := by omega
    rw [v5 i (by omega), hcv i hi']; simp [List.getD_eq_getElem?_getD, hi']
  · have hi' : i < cs.length := by omega
    simp only [List.getD_eq_getElem?_getD, List.getElem?_map, List.getElem?_eq_getElem hi', Option.map_some, Option.getD_some]
    exact fits_lo8 _
end StrChars.Road
namespace StrChars.Road
open Jvm Sem ClassFile Op Lib Jvm.Stand Jvm.Free Jvm.Free.XT
/-- WHAT COMES BACK, in the writer's own shape -/
def QV (Z : State) (x : Addr) (N : Int32) (bs : List Int32) (h : Heap) (n0 : Nat) (v : Option Value) (h' : Heap) (L : List Loc) : Prop := v = none ∧ RoadKit.Fr n0 L ∧ RoadKit.Keep h h' [x] ∧ RoadKit.Exa Z h' x ST ∧ RoadKit.Fld Z h' x ST "coder" "B" (.int 0) ∧
  ∃ (t : Addr) (kb : ClassId), n0 ≤ t ∧ h.size ≤ t ∧ ¬ t = x ∧ RoadKit.Fld Z h' x ST "value" "[B" (.ref t) ∧ RoadKit.Arv Z h' t kb .byte N (bs.map Value.int) (.int 0)
/-- **new String(chars) AT A CALL, FOR THE WRITER**: a char[] of n known ints, each 0 to 255 -/
theorem backV {p : Program} {l : Launch} {e : Env} {R : Room} {s : State} {args : Array Value} {below : List Frame} {len W : Nat} {Z : State} {a0 : Array Value} {h : Heap} (hZ : Z.Warmed39 s.vm) (hw : ∀ d ∈ words, d.before a0 Z = true) {kI : Nat} (wi : (Jvm.Cond.instantiable ST kI).before a0 Z = true)
    {x b : Addr} {kC : ClassId} {cs bs : List Int32} {d v0 c0 : Value} {z N : Int32} {n n0 : Nat} (hx0 : n0 ≤ x) (hh0 : n0 ≤ h.size) (E : RoadKit.Exa Z h x ST) (V : RoadKit.Fld Z h x ST "value" "[B" v0) (C : RoadKit.Fld Z h x ST "coder" "B" c0) (K : RoadKit.Arv Z h b kC .char N (cs.map Value.int) d) (S : RoadKit.Sta Z h ST "COMPACT_STRINGS" "Z" (.int z)) (hz : ¬ z = 0)
    (hn : cs.length = n) (hN : N = Int32.ofNat n) (l0 : 0 < n) (l2 : n ≤ 4000) (hp : ∀ c ∈ cs, ¬ c < 0 ∧ ¬ (255 : Int32) < c) (hb : bs = cs.map (fun c => c.toInt8.toInt32)) (hfr : 4 ≤ R.frames) (hlo : W + 65 ≤ R.locals) :
    Back l R p e below s args (⟨"java/lang/String", "<init>", "([C)V"⟩ : MethodName) len W (fun P a => a = #[.ref x, .ref b] ∧ P.U.heap = h ∧ P.cells + 1 ≤ R.cells ∧ P.slots + n ≤ R.slots)
      (fun P _ v B => ∃ L, QV Z x N bs h n0 v B.U.heap L ∧ B.locs = P.locs ++ L ∧ B.cells = P.cells + 1 ∧ B.slots = P.slots + n) := by
  subst hn hN hb
  refine Back.mono (backArv hZ hw wi E V C K S hz (n32 (by omega)) l0 (by omega) (fun c hc => (hp c hc).2) hfr hlo) (fun P a hp => hp) (fun P a v B hp hq => ?_)
  obtain ⟨L, ⟨q1, q2, q3, q4, q5, q6, q7, ⟨kb, v1, v2⟩, q9⟩, hl, hc, hs⟩ := hq
  exact ⟨L, ⟨q1, fun y hy => by rw [q2 y hy]; exact hx0, q3, q5, q7, h.size, kb, hh0, Nat.le_refl _, Nat.ne_of_gt E.lt, q6, by rw [List.map_map]; exact v2⟩, hl, hc, hs⟩
end StrChars.Road
namespace StrChars
open Jvm Sem ClassFile Op Lib Jvm.Stand Jvm.Free.XT Jvm.Free.ALB Jvm.Free.JM Jvm.Free
open Jvm.Lib.Cold (StaticIs)
def hi8 (x : Int32) : Int32 := lo8 (x >>> ((8 : Int32) &&& 31))
/-- what StringUTF16.getChar makes of two bytes -/
def pairCh (u v : Int32) : Int32 := (((u &&& 255) <<< ((0 : Int32) &&& 31)) ||| ((v &&& 255) <<< ((8 : Int32) &&& 31))).toUInt32.toUInt16.toUInt32.toInt32
theorem shr0 (c : Int32) : c >>> ((0 : Int32) &&& 31) = c := by
  have e : ((0 : Int32) &&& 31) = 0 := by decide
  rw [e]
  apply Int32.toBitVec_inj.mp
  rw [Int32.toBitVec_shiftRight]
  have e1 : ((0 : Int32).toBitVec.smod 32) = 0#32 := by decide
  rw [e1, BitVec.sshiftRight_eq']
  exact BitVec.sshiftRight_zero
theorem lo8_and (x : Int32) : (lo8 x &&& 255).toBitVec.toNat = x.toBitVec.toNat % 256 := by
  have h : (lo8 x).toBitVec = (x.toBitVec.signExtend 8).signExtend 32 := by rw [lo8, Int8.toBitVec_toInt32, Int32.toBitVec_toInt8]
  rw [Int32.toBitVec_and, BitVec.toNat_and, h]
  have e : ((x.toBitVec.signExtend 8).signExtend 32).toNat % 256 = x.toBitVec.toNat % 256 := by
    rw [BitVec.toNat_signExtend]
    have hlt := x.toBitVec.isLt
    simp only [BitVec.toNat_setWidth, BitVec.toNat_signExtend]
    split <;> split <;> omega
  rw [← e]
  exact Nat.and_two_pow_sub_one_eq_mod _ 8
theorem pair_says {c : Int32} (h0 : ¬ c < 0) (h1 : ¬ 65535 < c) : pairCh (lo8 c) (hi8 c) = c := by
  rw [Int32.lt_iff_toInt_lt] at h0 h1
  have e0 : (0 : Int32).toInt = 0 := rfl
  have e1 : (65535 : Int32).toInt = 65535 := rfl
  have hc : c.toInt = c.toBitVec.toNat := by
    have := c.toBitVec.isLt
    have e : c.toInt = c.toBitVec.toInt := rfl
    rw [e] at h0 h1
    rw [e]
    rw [BitVec.toInt_eq_toNat_cond] at h0 h1 ⊢
    split at h0 <;> split <;> omega
  have hn : c.toBitVec.toNat < 65536 := by omega
  have a1 := lo8_and c
  have a2 : (hi8 c &&& 255).toBitVec.toNat = c.toBitVec.toNat / 256 := by
    rw [hi8, lo8_and]
    have e : ((8 : Int32) &&& 31) = 8 := by decide
    rw [e, Int32.toBitVec_shiftRight]
    have e2 : ((8 : Int32).toBitVec.smod 32) = 8#32 := by decide
    rw [e2, BitVec.sshiftRight_eq', BitVec.toNat_sshiftRight_of_msb_false (by rw [BitVec.msb_eq_false_iff_two_mul_lt]; omega)]
    show c.toBitVec.toNat >>> 8 % 256 = _
    rw [Nat.shiftRight_eq_div_pow]
    omega
  unfold pairCh
  apply Int32.toBitVec_inj.mp
  apply BitVec.eq_of_toNat_eq
  have f0 : ((0 : Int32) &&& 31) = 0 := by decide
  have f8 : ((8 : Int32) &&& 31) = 8 := by decide
  rw [f0, f8]
  have g : (((lo8 c &&& 255) <<< (0 : Int32)) ||| ((hi8 c &&& 255) <<< (8 : Int32))).toBitVec.toNat = c.toBitVec.toNat := by
    rw [Int32.toBitVec_or, Int32.toBitVec_shiftLeft, Int32.toBitVec_shiftLeft]
    have s0 : ((0 : Int32).toBitVec.smod 32) = 0#32 := by decide
    have s8 : ((8 : Int32).toBitVec.smod 32) = 8#32 := by decide
    rw [s0, s8, BitVec.toNat_or]
    simp only [BitVec.shiftLeft_eq', BitVec.toNat_shiftLeft, a1, a2]
    show (c.toBitVec.toNat % 256) <<< 0 % 2 ^ 32 ||| (c.toBitVec.toNat / 256) <<< 8 % 2 ^ 32 = _
    rw [Nat.shiftLeft_zero, Nat.mod_eq_of_lt (show c.toBitVec.toNat % 256 < 2 ^ 32 by omega), Nat.mod_eq_of_lt (show (c.toBitVec.toNat / 256) <<< 8 < 2 ^ 32 by rw [Nat.shiftLeft_eq]; omega), Nat.or_comm, ← Nat.shiftLeft_add_eq_or_of_lt (by omega), Nat.shiftLeft_eq]
    omega
  show BitVec.toNat (((((lo8 c &&& 255) <<< (0 : Int32)) ||| ((hi8 c &&& 255) <<< (8 : Int32))).toBitVec.setWidth 16).setWidth 32) = _
  rw [BitVec.toNat_setWidth, BitVec.toNat_setWidth, g]
  omega
end StrChars
namespace StrChars
open Jvm Sem ClassFile Op Lib Jvm.Stand Jvm.Free.XT Jvm.Free.ALB Jvm.Free.JM Jvm.Free
open Jvm.Lib.Cold (StaticIs)
theorem shr1 {n : Nat} (h : 2 * n < 2 ^ 31) : Int32.ofNat (2 * n) >>> ((1 : Int32) &&& 31) = Int32.ofNat n := by
  have e : ((1 : Int32) &&& 31) = 1 := by decide
  rw [e]
  apply Int32.toBitVec_inj.mp
  rw [Int32.toBitVec_shiftRight]
  have e1 : ((1 : Int32).toBitVec.smod 32) = 1#32 := by decide
  have hm : (BitVec.ofNat 32 (2 * n)).toNat = 2 * n := by rw [BitVec.toNat_ofNat, Nat.mod_eq_of_lt (by omega)]
  rw [e1, BitVec.sshiftRight_eq']
  apply BitVec.eq_of_toNat_eq
  show ((BitVec.ofNat 32 (2 * n)).sshiftRight 1).toNat = (BitVec.ofNat 32 n).toNat
  rw [BitVec.toNat_sshiftRight_of_msb_false (by rw [BitVec.msb_eq_false_iff_two_mul_lt, hm]; omega), hm, BitVec.toNat_ofNat, Nat.shiftRight_eq_div_pow]
  omega
/-- charAt's cast of a byte read back -/
def chr8 (u : Int32) : Int32 := (u &&& 255).toUInt32.toUInt16.toUInt32.toInt32
theorem chr8_lo8 {c : Int32} (h0 : ¬ c < 0) (h1 : ¬ 255 < c) : chr8 (lo8 c) = c := by
  have t : ∀ k : Fin 256, (Int32.ofNat k.val).toUInt32.toUInt16.toUInt32.toInt32 = Int32.ofNat k.val := by decide +kernel
  unfold chr8
  rw [lo8_mask h0 h1]
  rw [Int32.lt_iff_toInt_lt] at h0 h1
  have e0 : (0 : Int32).toInt = 0 := rfl
  have e1 : (255 : Int32).toInt = 255 := rfl
  obtain ⟨k, hk⟩ : ∃ k : Nat, c.toInt = k := ⟨c.toInt.toNat, by omega⟩
  have hx : c = Int32.ofNat k := Int32.toInt_inj.mp (by rw [hk, Int32.toInt_ofNat_small (by omega)])
  rw [hx]
  exact t ⟨k, by omega⟩
theorem narrow_ch {c : Int32} (h0 : ¬ c < 0) (h1 : ¬ 65535 < c) : narrow .char (.int c) = .int c := by
  have q : narrow .char (.int (pairCh (lo8 c) (hi8 c))) = .int (pairCh (lo8 c) (hi8 c)) := narrow_c _
  rwa [pair_says h0 h1] at q
/-- the array's cell V codes the n chars f 0 .. f (n - 1) by the coder cd, as the JDK does: coder 1 just where some char is above 255 -/
def Cod (cd : Int32) (n : Nat) (f : Nat → Int32) (V : Cell) : Prop := (cd = 0 ∧ V.slots.size = n ∧ ∀ j, j < n → V.slots[j]? = some (.int (lo8 (f j))) ∧ ¬ 255 < f j) ∨ (cd = 1 ∧ V.slots.size = 2 * n ∧ (∀ j, j < n → V.slots[2 * j]? = some (.int (lo8 (f j))) ∧ V.slots[2 * j + 1]? = some (.int (hi8 (f j)))) ∧ ∃ j, j < n ∧ 255 < f j)
theorem Cod.cd {cd : Int32} {n : Nat} {f : Nat → Int32} {V : Cell} (h : Cod cd n f V) : cd = 0 ∨ cd = 1 := h.imp (fun q => q.1) fun q => q.1
theorem Cod.len {cd : Int32} {n : Nat} {f : Nat → Int32} {V : Cell} (h : Cod cd n f V) (hs : V.slots.size < 2 ^ 31) : Int32.ofNat V.slots.size >>> (cd &&& 31) = Int32.ofNat n := by
  rcases h with ⟨rfl, h, -⟩ | ⟨rfl, h, -⟩
  · rw [shr0, h]
  · rw [h, shr1 (by omega)]
/-- **x is a String of the n chars f 0 .. f (n - 1)**, Latin-1 or UTF-16; its array at t has the cell V -/
def Txt (x t : Addr) (V : Cell) (cd : Int32) (n : Nat) (f : Nat → Int32) (U : State) : Prop := Exact "java/lang/String" x U ∧ Has x "java/lang/String" "value" "[B" (.ref t) U ∧ Has x "java/lang/String" "coder" "B" (.int cd) U ∧ XT.Arr .byte t V U ∧ Cod cd n f V ∧ ∀ j, j < n → ¬ f j < 0 ∧ ¬ 65535 < f j
theorem Txt.mv {x t : Addr} {V : Cell} {cd : Int32} {n : Nat} {f : Nat → Int32} {U U' : State} (h : Txt x t V cd n f U) (hal : U.vm.Alike U'.vm) (hh : U'.heap = U.heap) : Txt x t V cd n f U' := ⟨h.1.mv hal hh, h.2.1.mv hal hh, h.2.2.1.mv hal hh, h.2.2.2.1.mv hal hh, h.2.2.2.2⟩
namespace Cdr
def yN : MethodName := ⟨"java/lang/String", "coder", "()B"⟩
abbrev yB : ByteArray := jdk_42_method_152_code
theorem d0 : decode yB 0 = .ok (.getstatic 38, 3) := by decide +kernel
theorem d3 : decode yB 3 = .ok (.ifCond (.eq) 10, 3) := by decide +kernel
theorem d6 : decode yB 6 = .ok (.aload_n 0, 1) := by decide +kernel
theorem d7 : decode yB 7 = .ok (.getfield 15, 3) := by decide +kernel
theorem d10 : decode yB 10 = .ok (.goto 4, 3) := by decide +kernel
theorem d14 : decode yB 14 = .ok (.ireturn, 1) := by decide +kernel
def site : List Cond := [.fieldLink "java/lang/String" 38 "java/lang/String" "COMPACT_STRINGS" "Z", .fieldLink "java/lang/String" 15 "java/lang/String" "coder" "B"]
def tab : Cond := tabOf yN yB 1 (some .byte) site
def P (x : Addr) (cd z : Int32) (args : Array Value) (s : State) : Prop := args = #[.ref x] ∧ Has x "java/lang/String" "coder" "B" (.int cd) s ∧ (cd = 0 ∨ cd = 1) ∧ StaticIs s "java/lang/String" "COMPACT_STRINGS" "Z" (.int z) ∧ ¬ z = 0
def E (cd : Int32) (r : Option Value) (s u : State) : Prop := XT.PureE (some (.int cd)) r s u
theorem law (l : Launch) (x : Addr) (cd z : Int32) : Law l yN 1 0 0 0 yB 1 (some .byte) site (P x cd z) (E cd) [] 0 0 := by
  refine Law.of_walk (plainFor_of_name (by decide +kernel)) (by decide +kernel) (by decide +kernel) (by decide) (fun _ _ h => by rw [h.1]; rfl) (fun _ U U' hal hh h => ⟨h.1, h.2.1.mv hal hh, h.2.2.1, h.2.2.2.1.there hal hh, h.2.2.2.2⟩) (fun r U U' V V' h1 hal h2 h => XT.PureE.mv r U U' V V' h1 hal h2 h) ?_
  intro p e s m args below meth c s₁ X0 hexec hbytes hml hret hlk hnm hown hh0 W hP
  obtain ⟨rfl, hx, hc, s1, hz⟩ := hP
  have c1 : Steps p.tables e below (s₁.setTop (entryFrame m #[.ref x] 1)) (s₁.setTop (mkF m 0 #[.val (.ref x)] [])) := entry rfl
  obtain ⟨T2, X2, q2, st2⟩ := X0.sget hexec hown (wk W (.fieldLink "java/lang/String" 38 "java/lang/String" "COMPACT_STRINGS" "Z")) s1 (fun _ _ h => by rw [hh0]; exact h) (g := (mkF m 0 #[.val (.ref x)] [])) rfl (hb hbytes d0)
  have hh2 := q2.trans hh0
  have c3 : Steps p.tables e below (s₁.setTop (entryFrame m #[.ref x] 1)) (T2.setTop (mkF m 7 #[.val (.ref x)] [.ref x])) := (c1.trans (st2 _ (Steps.refl _))).trans (by
    refine XS.ifNo X2.here hexec rfl (hb hbytes d3) rfl (i0_eq_f hz) ?_
    refine XS.aloadN X2.here hexec rfl (hb hbytes d6) rfl rfl ?_
    exact Steps.refl _)
  obtain ⟨T4, X4, q4, st4⟩ := X2.hget hexec hown (wk W (.fieldLink "java/lang/String" 15 "java/lang/String" "coder" "B")) (hx.mv X2.warmed.alike hh2) (g := (mkF m 7 #[.val (.ref x)] [.ref x])) rfl (rest := []) rfl (hb hbytes d7)
  have c5 : Steps p.tables e below (s₁.setTop (entryFrame m #[.ref x] 1)) (T4.setTop (mkF m 14 #[.val (.ref x)] [.int cd])) := (c3.trans (st4 _ (Steps.refl _))).trans (by
    refine XS.goto X4.here hexec rfl (pc0 := 10) rfl (hb hbytes d10) (by decide) rfl ?_
    exact Steps.refl _)
  exact ⟨T4, some (.int cd), _, _, _, X4, rfl, rfl, rfl, (fun h => by cases h), ⟨rfl, q4.trans hh2⟩, fun fs hl => c5.trans (X4.ireturnOut hexec hret (by rcases hc with rfl | rfl <;> rfl) (Or.inr (Or.inr (Or.inl rfl))) (hb hbytes d14) hl)⟩
end Cdr
namespace Len
def yN : MethodName := ⟨"java/lang/String", "length", "()I"⟩
abbrev yB : ByteArray := jdk_42_method_54_code
theorem d0 : decode yB 0 = .ok (.aload_n 0, 1) := by decide +kernel
theorem d1 : decode yB 1 = .ok (.getfield 9, 3) := by decide +kernel
theorem d4 : decode yB 4 = .ok (.arraylength, 1) := by decide +kernel
theorem d5 : decode yB 5 = .ok (.aload_n 0, 1) := by decide +kernel
theorem d6 : decode yB 6 = .ok (.invokevirtual 335, 3) := by decide +kernel
theorem d9 : decode yB 9 = .ok (.ishr, 1) := by decide +kernel
theorem d10 : decode yB 10 = .ok (.ireturn, 1) := by decide +kernel
def site : List Cond := [.fieldLink "java/lang/String" 9 "java/lang/String" "value" "[B", Cdr.tab] ++ virtW "java/lang/String" 335 "java/lang/String" Cdr.yN Cdr.yN
def tab : Cond := tabOf yN yB 1 (some .int) site
def P (x t : Addr) (V : Cell) (cd : Int32) (n : Nat) (f : Nat → Int32) (z : Int32) (args : Array Value) (s : State) : Prop := args = #[.ref x] ∧ Txt x t V cd n f s ∧ StaticIs s "java/lang/String" "COMPACT_STRINGS" "Z" (.int z) ∧ ¬ z = 0
def E (n : Nat) (r : Option Value) (s u : State) : Prop := XT.PureE (some (.int (Int32.ofNat n))) r s u
/-- length() of a String of n chars, in either coding -/
theorem law (l : Launch) (x t : Addr) (V : Cell) (cd : Int32) (n : Nat) (f : Nat → Int32) (z : Int32) : Law l yN 1 0 1 13 yB 1 (some .int) site (P x t V cd n f z) (E n) [] 0 0 := by
  refine Law.of_walk (plainFor_of_name (by decide +kernel)) (by decide +kernel) (by decide +kernel) (by decide) (fun _ _ h => by rw [h.1]; rfl) (fun _ U U' hal hh h => ⟨h.1, h.2.1.mv hal hh, h.2.2.1.there hal hh, h.2.2.2⟩) (fun r U U' V V' h1 hal h2 h => XT.PureE.mv r U U' V V' h1 hal h2 h) ?_
  intro p e s m args below meth c s₁ X0 hexec hbytes hml hret hlk hnm hown hh0 W hP
  obtain ⟨rfl, hx, s1, hz⟩ := hP
  have v31 := hx.2.2.2.1.2.2.2
  have c1 : Steps p.tables e below (s₁.setTop (entryFrame m #[.ref x] 1)) (s₁.setTop (mkF m 1 #[.val (.ref x)] [.ref x])) := Steps.trans (entry rfl) (by
    show Steps p.tables e below (s₁.setTop (mkF m 0 #[.val (.ref x)] [])) _
    refine XS.aloadN X0.here hexec rfl (hb hbytes d0) rfl rfl ?_
    exact Steps.refl _)
  obtain ⟨T2, X2, q2, st2⟩ := X0.hget hexec hown (wk W (.fieldLink "java/lang/String" 9 "java/lang/String" "value" "[B")) (hx.mv X0.warmed.alike hh0).2.1 (g := (mkF m 1 #[.val (.ref x)] [.ref x])) rfl (rest := []) rfl (hb hbytes d1)
  have hh2 := q2.trans hh0
  have hx2 := hx.mv X2.warmed.alike hh2
  have c3 : Steps p.tables e below (s₁.setTop (entryFrame m #[.ref x] 1)) (T2.setTop (mkF m 6 #[.val (.ref x)] [.ref x, .int (Int32.ofNat V.slots.size)])) := (c1.trans (st2 _ (Steps.refl _))).trans (by
    refine X2.alen hexec hx2.2.2.2.1 rfl rfl (hb hbytes d4) ?_
    refine XS.aloadN X2.here hexec rfl (hb hbytes d5) rfl rfl ?_
    exact Steps.refl _)
  obtain ⟨v4, T4, X4, E4, g4⟩ := X2.callV hexec (Cdr.law l x cd z) hown (wks W (virtW "java/lang/String" 335 "java/lang/String" Cdr.yN Cdr.yN)) rfl (by decide) (wk W Cdr.tab) (W := 1) (Nat.le_of_ble_eq_true rfl) (Nat.le_of_ble_eq_true rfl) (Nat.le_refl _) (Nat.le_refl _) (hx2.1.fc X2.warmed.alike) hx2.1.is (g := (mkF m 6 #[.val (.ref x)] [.ref x, .int (Int32.ofNat V.slots.size)])) rfl (by rw [hml]; rfl) c3 (argsL := []) (rest := [.int (Int32.ofNat V.slots.size)]) rfl rfl (by show 2 * 0 + (1 + 0) ≤ _; decide) (hb hbytes d6) (⟨rfl, hx2.2.2.1, hx.2.2.2.2.1.cd, s1.there X2.warmed.alike hh2, hz⟩)
  obtain ⟨rfl, q4⟩ := E4
  have c5 : Steps p.tables e below (s₁.setTop (entryFrame m #[.ref x] 1)) (T4.setTop (mkF m 10 #[.val (.ref x)] [.int (Int32.ofNat V.slots.size >>> (cd &&& 31))])) := Steps.trans g4 (by
    refine ishr X4.here hexec rfl (hb hbytes d9) rfl ?_
    exact Steps.refl _)
  rw [hx.2.2.2.2.1.len v31] at c5
  exact ⟨T4, some (.int (Int32.ofNat n)), _, _, _, X4, rfl, rfl, rfl, (fun h => by cases h), ⟨rfl, q4.trans hh2⟩, fun fs hl => c5.trans (X4.ireturnOut hexec hret rfl (Or.inl rfl) (hb hbytes d10) hl)⟩
theorem pays {l : Launch} {R : Room} {p : Program} {e : Env} {below : List Frame} {s : State} {sargs : Array Value} {len W : Nat} (x t : Addr) (V : Cell) (cd : Int32) (n : Nat) (f : Nat → Int32) (z : Int32) (htab : tab.before sargs s = true) (hfr : 2 ≤ R.frames) (hlo : W + 25 ≤ R.locals) :
    Back l R p e below s sargs yN len W (fun A₁ a₁ => A₁.cells + 0 ≤ R.cells ∧ A₁.slots + 0 ≤ R.slots ∧ P x t V cd n f z a₁ A₁.U) (fun A₁ _ v₁ B₁ => E n v₁ A₁.U B₁.U ∧ B₁.locs = A₁.locs ++ [] ∧ B₁.cells = A₁.cells + 0 ∧ B₁.slots = A₁.slots + 0) :=
  (law l x t V cd n f z).pays htab hfr (by omega)
end Len
namespace IsL
def yN : MethodName := ⟨"java/lang/String", "isLatin1", "()Z"⟩
abbrev yB : ByteArray := jdk_42_method_154_code
theorem d0 : decode yB 0 = .ok (.getstatic 38, 3) := by decide +kernel
theorem d3 : decode yB 3 = .ok (.ifCond (.eq) 14, 3) := by decide +kernel
theorem d6 : decode yB 6 = .ok (.aload_n 0, 1) := by decide +kernel
theorem d7 : decode yB 7 = .ok (.getfield 15, 3) := by decide +kernel
theorem d10 : decode yB 10 = .ok (.ifCond (.ne) 7, 3) := by decide +kernel
theorem d13 : decode yB 13 = .ok (.iconst 1, 1) := by decide +kernel
theorem d14 : decode yB 14 = .ok (.goto 4, 3) := by decide +kernel
theorem d17 : decode yB 17 = .ok (.iconst 0, 1) := by decide +kernel
theorem d18 : decode yB 18 = .ok (.ireturn, 1) := by decide +kernel
def site : List Cond := [.fieldLink "java/lang/String" 38 "java/lang/String" "COMPACT_STRINGS" "Z", .fieldLink "java/lang/String" 15 "java/lang/String" "coder" "B"]
def tab : Cond := tabOf yN yB 1 (some .boolean) site
def P (x : Addr) (cd z : Int32) (args : Array Value) (s : State) : Prop := args = #[.ref x] ∧ Has x "java/lang/String" "coder" "B" (.int cd) s ∧ (cd = 0 ∨ cd = 1) ∧ StaticIs s "java/lang/String" "COMPACT_STRINGS" "Z" (.int z) ∧ ¬ z = 0
def E (cd : Int32) (r : Option Value) (s u : State) : Prop := XT.PureE (some (.int (1 - cd))) r s u
theorem law (l : Launch) (x : Addr) (cd z : Int32) : Law l yN 1 0 0 0 yB 1 (some .boolean) site (P x cd z) (E cd) [] 0 0 := by
  refine Law.of_walk (plainFor_of_name (by decide +kernel)) (by decide +kernel) (by decide +kernel) (by decide) (fun _ _ h => by rw [h.1]; rfl) (fun _ U U' hal hh h => ⟨h.1, h.2.1.mv hal hh, h.2.2.1, h.2.2.2.1.there hal hh, h.2.2.2.2⟩) (fun r U U' V V' h1 hal h2 h => XT.PureE.mv r U U' V V' h1 hal h2 h) ?_
  intro p e s m args below meth c s₁ X0 hexec hbytes hml hret hlk hnm hown hh0 W hP
  obtain ⟨rfl, hx, hc, s1, hz⟩ := hP
  have c1 : Steps p.tables e below (s₁.setTop (entryFrame m #[.ref x] 1)) (s₁.setTop (mkF m 0 #[.val (.ref x)] [])) := entry rfl
  obtain ⟨T2, X2, q2, st2⟩ := X0.sget hexec hown (wk W (.fieldLink "java/lang/String" 38 "java/lang/String" "COMPACT_STRINGS" "Z")) s1 (fun _ _ h => by rw [hh0]; exact h) (g := (mkF m 0 #[.val (.ref x)] [])) rfl (hb hbytes d0)
  have hh2 := q2.trans hh0
  have c3 : Steps p.tables e below (s₁.setTop (entryFrame m #[.ref x] 1)) (T2.setTop (mkF m 7 #[.val (.ref x)] [.ref x])) := (c1.trans (st2 _ (Steps.refl _))).trans (by
    refine XS.ifNo X2.here hexec rfl (hb hbytes d3) rfl (i0_eq_f hz) ?_
    refine XS.aloadN X2.here hexec rfl (hb hbytes d6) rfl rfl ?_
    exact Steps.refl _)
  obtain ⟨T4, X4, q4, st4⟩ := X2.hget hexec hown (wk W (.fieldLink "java/lang/String" 15 "java/lang/String" "coder" "B")) (hx.mv X2.warmed.alike hh2) (g := (mkF m 7 #[.val (.ref x)] [.ref x])) rfl (rest := []) rfl (hb hbytes d7)
  have c5 : Steps p.tables e below (s₁.setTop (entryFrame m #[.ref x] 1)) (T4.setTop (mkF m 10 #[.val (.ref x)] [.int cd])) := c3.trans (st4 _ (Steps.refl _))
  have c6 : Steps p.tables e below (s₁.setTop (entryFrame m #[.ref x] 1)) (T4.setTop (mkF m 18 #[.val (.ref x)] [.int (1 - cd)])) := by
    rcases hc with rfl | rfl
    · exact c5.trans (by
        refine XS.ifNo X4.here hexec rfl (hb hbytes d10) rfl (i0_ne_f rfl) ?_
        refine iconstV X4.here hexec rfl 1 (hb hbytes d13) (by decide) ?_
        refine XS.goto X4.here hexec rfl (pc0 := 14) rfl (hb hbytes d14) (by decide) rfl ?_
        exact Steps.refl _)
    · exact c5.trans (by
        refine XS.ifYes X4.here hexec rfl (pc0 := 10) rfl (hb hbytes d10) rfl (i0_ne_t (by decide)) (by decide) rfl ?_
        refine iconstV X4.here hexec rfl 0 (hb hbytes d17) (by decide) ?_
        exact Steps.refl _)
  exact ⟨T4, some (.int (1 - cd)), _, _, _, X4, rfl, rfl, rfl, (fun h => by cases h), ⟨rfl, q4.trans hh2⟩, fun fs hl => c6.trans (X4.ireturnOut hexec hret (by rcases hc with rfl | rfl <;> rfl) (Or.inr (Or.inl rfl)) (hb hbytes d18) hl)⟩
end IsL
namespace LChA
def yN : MethodName := ⟨"java/lang/StringLatin1", "charAt", "([BI)C"⟩
abbrev yB : ByteArray := jdk_43_method_2_code
theorem d0 : decode yB 0 = .ok (.iload_n 1, 1) := by decide +kernel
theorem d1 : decode yB 1 = .ok (.aload_n 0, 1) := by decide +kernel
theorem d2 : decode yB 2 = .ok (.arraylength, 1) := by decide +kernel
theorem d3 : decode yB 3 = .ok (.invokestatic 9, 3) := by decide +kernel
theorem d6 : decode yB 6 = .ok (.aload_n 0, 1) := by decide +kernel
theorem d7 : decode yB 7 = .ok (.iload_n 1, 1) := by decide +kernel
theorem d8 : decode yB 8 = .ok (.baload, 1) := by decide +kernel
theorem d9 : decode yB 9 = .ok (.sipush 255, 3) := by decide +kernel
theorem d12 : decode yB 12 = .ok (.iand, 1) := by decide +kernel
theorem d13 : decode yB 13 = .ok (.i2c, 1) := by decide +kernel
theorem d14 : decode yB 14 = .ok (.ireturn, 1) := by decide +kernel
def site : List Cond := [JO.Str_checkIndex.tab] ++ staticW "java/lang/StringLatin1" 9 JO.Str_checkIndex.yN
def tab : Cond := tabOf yN yB 2 (some .char) site
def P (t : Addr) (V : Cell) (i : Nat) (u : Int32) (fm : Value) (args : Array Value) (s : State) : Prop := args = #[.ref t, .int (Int32.ofNat i)] ∧ XT.Arr .byte t V s ∧ V.slots[i]? = some (.int u) ∧ (StaticIs s "jdk/internal/util/Preconditions" "SIOOBE_FORMATTER" "Ljava/util/function/BiFunction;" fm ∧ fm.isRef = true)
def E (u : Int32) (r : Option Value) (s w : State) : Prop := XT.PureE (some (.int (chr8 u))) r s w
theorem law (l : Launch) (t : Addr) (V : Cell) (i : Nat) (u : Int32) (fm : Value) : Law l yN 2 2 2 27 yB 2 (some .char) site (P t V i u fm) (E u) [] 0 0 := by
  refine Law.of_walk (plainFor_of_name (by decide +kernel)) (by decide +kernel) (by decide +kernel) (by decide) (fun _ _ h => by rw [h.1]; rfl) (fun _ U U' hal hh h => ⟨h.1, h.2.1.mv hal hh, h.2.2.1, h.2.2.2.1.there hal hh, h.2.2.2.2⟩) (fun r U U' V V' h1 hal h2 h => XT.PureE.mv r U U' V V' h1 hal h2 h) ?_
  intro p e s m args below meth c s₁ X0 hexec hbytes hml hret hlk hnm hown hh0 W hP
  obtain ⟨rfl, hV, hu, s1, rf⟩ := hP
  have v31 := hV.2.2.2
  have hi : i < V.slots.size := (Array.getElem?_eq_some_iff.mp hu).1
  have c1 : Steps p.tables e below (s₁.setTop (entryFrame m #[.ref t, .int (Int32.ofNat i)] 2)) (s₁.setTop (mkF m 0 #[.val (.ref t), .val (.int (Int32.ofNat i))] [])) := entry rfl
  have c2 : Steps p.tables e below (s₁.setTop (entryFrame m #[.ref t, .int (Int32.ofNat i)] 2)) (s₁.setTop (mkF m 3 #[.val (.ref t), .val (.int (Int32.ofNat i))] [.int (Int32.ofNat V.slots.size), .int (Int32.ofNat i)])) := c1.trans (by
    refine XS.iloadN X0.here hexec rfl (hb hbytes d0) rfl ?_
    refine XS.aloadN X0.here hexec rfl (hb hbytes d1) rfl rfl ?_
    refine X0.alen hexec (hV.mv X0.warmed.alike hh0) rfl rfl (hb hbytes d2) ?_
    exact Steps.refl _)
  obtain ⟨v3, T3, X3, E3, g3⟩ := X0.callS hexec (JO.Str_checkIndex.law l (Int32.ofNat i) (Int32.ofNat V.slots.size) fm) hown (wks W (staticW "java/lang/StringLatin1" 9 JO.Str_checkIndex.yN)) (wk W JO.Str_checkIndex.tab) (W := 0) (Nat.le_of_ble_eq_true rfl) (Nat.le_of_ble_eq_true rfl) (Nat.le_refl _) (Nat.le_refl _) (g := (mkF m 3 #[.val (.ref t), .val (.int (Int32.ofNat i))] [.int (Int32.ofNat V.slots.size), .int (Int32.ofNat i)])) rfl (by rw [hml]; rfl) c2 (argsL := [.int (Int32.ofNat i), .int (Int32.ofNat V.slots.size)]) (rest := []) rfl rfl (by show 2 * 0 + 0 ≤ _; decide) (hb hbytes d3) (⟨rfl, rf, s1.there X0.warmed.alike hh0, Int32.ofNat_not_neg (by omega), lt32 v31 hi⟩)
  obtain ⟨rfl, q3⟩ := E3
  have hh3 := q3.trans hh0
  have c4 : Steps p.tables e below (s₁.setTop (entryFrame m #[.ref t, .int (Int32.ofNat i)] 2)) (T3.setTop (mkF m 14 #[.val (.ref t), .val (.int (Int32.ofNat i))] [.int (chr8 u)])) := Steps.trans g3 (by
    refine XS.aloadN X3.here hexec rfl (hb hbytes d6) rfl rfl ?_
    refine XS.iloadN X3.here hexec rfl (hb hbytes d7) rfl ?_
    refine X3.aget hexec (hV.mv X3.warmed.alike hh3) rfl hu rfl rfl (hb hbytes d8) ?_
    refine sipushV X3.here hexec rfl 255 (hb hbytes d9) (by decide) ?_
    refine XS.iand X3.here hexec rfl (hb hbytes d12) rfl ?_
    refine i2c X3.here hexec rfl (hb hbytes d13) rfl ?_
    exact Steps.refl _)
  exact ⟨T3, some (.int (chr8 u)), _, _, _, X3, rfl, rfl, rfl, (fun h => by cases h), ⟨rfl, hh3⟩, fun fs hl => c4.trans (X3.ireturnOut hexec hret (narrow_c _) (Or.inr (Or.inr (Or.inr (Or.inl rfl)))) (hb hbytes d14) hl)⟩
end LChA
end StrChars
namespace StrChars.Road
open Jvm Sem ClassFile Op Lib Jvm.Stand Jvm.Free Jvm.Free.XT
open Jvm.Lib.Cold (StaticIs)
theorem consq {a : Array Value} {s : State} {c : Jvm.Cond} {L : List Jvm.Cond} (h0 : c.before a s = true) (h : ∀ w ∈ L, w.before a s = true) : ∀ w ∈ c :: L, w.before a s = true := fun w hw => (List.mem_cons.mp hw).elim (fun e => e ▸ h0) (h w)
/-- the words of String.length(), either coding -/
abbrev wordsLen : List Jvm.Cond := [.code Len.yN Len.yB 1 (some .int), .initialized ST, .fieldLink ST 9 ST "value" "[B", .fieldLink ST 38 ST "COMPACT_STRINGS" "Z", .fieldLink ST 15 ST "coder" "B", .code Cdr.yN Cdr.yB 1 (some .byte), .methodLink ST 335 Cdr.yN, .declares Cdr.yN, .selects ST Cdr.yN Cdr.yN, .instanceMethod Cdr.yN]
theorem tabLen_of {a : Array Value} {s : State} (h : ∀ w ∈ wordsLen, w.before a s = true) : Len.tab.before a s = true := by
  have hc : Cdr.tab.before a s = true := unparts (wk h (.code Cdr.yN Cdr.yB 1 (some .byte))) (wks h (.initialized Cdr.yN.cls :: Cdr.site))
  have q := consq hc h
  exact unparts (wk q (.code Len.yN Len.yB 1 (some .int))) (wks q (.initialized Len.yN.cls :: Len.site))
theorem movedLen {Z s : State} {a0 args : Array Value} (hZ : Z.Warmed39 s.vm) (hw : ∀ d ∈ wordsLen, d.before a0 Z = true) : ∀ d ∈ wordsLen, d.before args s = true := fun d hd => by
  have q := hw d hd
  have t : ∀ d ∈ wordsLen, d = .arrayClass .byte ∨ (d.onTables && d.keepsFace) = true := by decide +kernel
  rcases t d hd with rfl | t
  · exact RoadKit.mvA hZ q
  · exact RoadKit.mv hZ q t
/-- the bytes of the chars cs, low before high -/
def wideBytes : List Int32 → List Value
  | [] => []
  | c :: cs => .int (lo8 c) :: .int (hi8 c) :: wideBytes cs
theorem wide_lo (d : Value) : ∀ (cs : List Int32) (j : Nat), j < cs.length → (wideBytes cs).getD (2 * j) d = .int (lo8 (cs.getD j 0))
  | [], j, h => absurd h (Nat.not_lt_zero j)
  | c :: cs, 0, _ => rfl
  | c :: cs, j + 1, h => by
    have q := wide_lo d cs j (by simpa using h)
    rw [show 2 * (j + 1) = 2 * j + 1 + 1 from by omega]
    simpa [wideBytes] using q
theorem wide_hi (d : Value) : ∀ (cs : List Int32) (j : Nat), j < cs.length → (wideBytes cs).getD (2 * j + 1) d = .int (hi8 (cs.getD j 0))
  | [], j, h => absurd h (Nat.not_lt_zero j)
  | c :: cs, 0, _ => rfl
  | c :: cs, j + 1, h => by
    have q := wide_hi d cs j (by simpa using h)
    rw [show 2 * (j + 1) + 1 = 2 * j + 1 + 1 + 1 from by omega]
    simpa [wideBytes] using q
theorem low_at (d : Value) (cs : List Int32) (j : Nat) (h : j < cs.length) : (cs.map fun c => Value.int (lo8 c)).getD j d = .int (lo8 (cs.getD j 0)) := by
  simp [List.getD_eq_getElem?_getD, h]
/-- an array of N2 bytes vs codes the chars cs by the coder cd -/
def CodA (cs : List Int32) (cd N2 : Int32) (vs : List Value) : Prop := (cd = 0 ∧ N2 = Int32.ofNat cs.length ∧ vs = (cs.map fun c => Value.int (lo8 c)) ∧ ∀ c ∈ cs, ¬ 255 < c) ∨ (cd = 1 ∧ N2 = Int32.ofNat (2 * cs.length) ∧ vs = wideBytes cs ∧ ∃ c ∈ cs, 255 < c)
theorem CodA.cod {cs : List Int32} {cd N2 : Int32} {vs : List Value} {V : Cell} (h : CodA cs cd N2 vs) (hn : 2 * cs.length < 2 ^ 31) (hs : V.slots.size = N2.toNatClampNeg) (hv : RoadKit.Has V vs (.int 0)) : Cod cd cs.length (fun j => cs.getD j 0) V := by
  rcases h with ⟨rfl, rfl, rfl, h⟩ | ⟨rfl, rfl, rfl, c, hc, hw⟩
  · rw [n32 (by omega)] at hs
    exact Or.inl ⟨rfl, hs, fun j hj => ⟨by rw [hv j (by omega), low_at _ _ _ hj], by
      have e : cs.getD j 0 = cs[j] := by simp [List.getD_eq_getElem?_getD, hj]
      show ¬ 255 < cs.getD j 0
      rw [e]; exact h _ (List.getElem_mem _)⟩⟩
  · rw [n32 (by omega)] at hs
    obtain ⟨j, hj, rfl⟩ := List.getElem_of_mem hc
    exact Or.inr ⟨rfl, hs, fun j hj => ⟨by rw [hv _ (by omega), wide_lo _ _ _ hj], by rw [hv _ (by omega), wide_hi _ _ _ hj]⟩, j, hj, by
      have e : cs.getD j 0 = cs[j] := by simp [List.getD_eq_getElem?_getD, hj]
      show 255 < cs.getD j 0
      rw [e]; exact hw⟩
/-- an object of exactly java/lang/String, its two fields found: as the laws ask it -/
theorem strObj {Z U : State} {a0 : Array Value} {kI : Nat} (wi : (Jvm.Cond.instantiable ST kI).before a0 Z = true) (al : Z.vm.Alike U.vm) {x : Addr} {v0 c0 : Value} (E : RoadKit.Exa Z U.heap x ST) (V : RoadKit.Fld Z U.heap x ST "value" "[B" v0) (C : RoadKit.Fld Z U.heap x ST "coder" "B" c0) :
    ∃ (D : Cell) (fV fC : Field), Blank ST x D U ∧ Found ST "value" "[B" fV U ∧ Found ST "coder" "B" fC U ∧ D.slots[fV.slot]? = some v0 ∧ D.slots[fC.slot]? = some c0 ∧ RoadKit.slotOf Z ST "value" "[B" = fV.slot ∧ RoadKit.slotOf Z ST "coder" "B" = fC.slot := by
  obtain ⟨D, cfV, kV, iV, fV, hD, gV, stV, knV, obV, asV, slV⟩ := V
  obtain ⟨D', cfC, kC, iC, fC, hD', gC, stC, -, -, asC, slC⟩ := C
  cases hD.symm.trans hD'
  obtain ⟨D2, kD, e1, e2, e3, e4, e5⟩ := E
  cases hD.symm.trans e1
  obtain ⟨c2, k2, i1, i2, i3, -⟩ := Cond.instantiable_spec wi
  cases e2.symm.trans i1
  cases e3.symm.trans i2
  obtain ⟨kU, u1, u2⟩ := al.2.2 _ _ e3
  exact ⟨D, fV, fC, ⟨hD, ⟨knV, fun q hq => by rw [hq] at obV; cases obV⟩, by rw [al.findClass]; exact e2, kU, u1, by rw [u2]; exact i3, by rw [u2]; exact e5 i3⟩, ⟨SBG.found_only al ⟨cfV, kV, iV, gV⟩, stV⟩, ⟨SBG.found_only al ⟨cfC, kC, iC, gC⟩, stC⟩, slV, slC, by simp [RoadKit.slotOf, gV], by simp [RoadKit.slotOf, gC]⟩
theorem sta_is {Z U : State} (al : Z.vm.Alike U.vm) {C n d : String} {v : Value} (S : RoadKit.Sta Z U.heap C n d v) : StaticIs U C n d v := by
  obtain ⟨cfS, iS, kS, fS, st, cS, t1, t2, t3, t4, t5, t6, t7⟩ := S
  exact StaticIs.there (s := { Z with heap := U.heap }) ⟨cfS, iS, kS, fS, st, cS, t1, t2, t3, t4, t5, (fun q => by rw [q] at t6; cases t6), t7⟩ al rfl
/-- **length() OF SUCH A STRING** -/
theorem lenW {p : Program} {l : Launch} {e : Env} {R : Room} {s : State} {args : Array Value} {below : List Frame} {len W : Nat} {Z : State} {a0 : Array Value} {h : Heap} (hZ : Z.Warmed39 s.vm) (hw : ∀ d ∈ wordsLen, d.before a0 Z = true) {kI : Nat} (wi : (Jvm.Cond.instantiable ST kI).before a0 Z = true)
    {x t : Addr} {kb : ClassId} {cs : List Int32} {cd N2 z : Int32} {vs : List Value} (E : RoadKit.Exa Z h x ST) (V : RoadKit.Fld Z h x ST "value" "[B" (.ref t)) (C : RoadKit.Fld Z h x ST "coder" "B" (.int cd)) (K : RoadKit.Arv Z h t kb .byte N2 vs (.int 0)) (hc : CodA cs cd N2 vs) (hb : ∀ c ∈ cs, ¬ c < 0 ∧ ¬ (65535 : Int32) < c)
    (S : RoadKit.Sta Z h ST "COMPACT_STRINGS" "Z" (.int z)) (hz : ¬ z = 0) (l2 : cs.length ≤ 4000) (hfr : 2 ≤ R.frames) (hlo : W + 25 ≤ R.locals) :
    Back l R p e below s args (⟨"java/lang/String", "length", "()I"⟩ : MethodName) len W (fun P a => a = #[.ref x] ∧ P.U.heap = h ∧ P.cells + 0 ≤ R.cells ∧ P.slots + 0 ≤ R.slots)
      (fun P _ v B => ∃ L, (v = some (.int (Int32.ofNat cs.length)) ∧ L = [] ∧ B.U.heap = h) ∧ B.locs = P.locs ++ L ∧ B.cells = P.cells + 0 ∧ B.slots = P.slots + 0) := by
  obtain ⟨A, K1, K2, K3, K4, K5, K6⟩ := K
  have hcod := hc.cod (by omega) K3 K5
  intro m meth c P g ig mk a X hg hsize hdg hW hn hp'
  obtain ⟨rfl, rfl, r1, r2⟩ := hp'
  have al : Z.vm.Alike P.U.vm := hZ.alike.trans X.warmed.alike
  obtain ⟨D, fV, fC, hB, F1, F2, g1, g2, -, -⟩ := strObj wi al E V C
  have hx : Txt x t A cd cs.length (fun j => cs.getD j 0) P.U := ⟨⟨_, hB.2.2.1, D, hB.1, rfl, by cases q : D.vm <;> first | rfl | exact absurd q (hB.2.1.2 _)⟩, Has.of hB F1 g1, Has.of hB F2 g2, ⟨K1.1, State.isArrayOf_alike al K1.2.1, K1.2.2, by rcases hcod with ⟨-, q, -⟩ | ⟨-, q, -⟩ <;> omega⟩, hcod, fun j hj => by
    have e : cs.getD j 0 = cs[j] := by simp [List.getD_eq_getElem?_getD, hj]
    show ¬ cs.getD j 0 < 0 ∧ ¬ 65535 < cs.getD j 0
    rw [e]; exact hb _ (List.getElem_mem _)⟩
  obtain ⟨v, B, X', ⟨⟨hv, hh⟩, hl, hk, hs⟩, st⟩ := Len.pays x t A cd cs.length (fun j => cs.getD j 0) z (tabLen_of (movedLen hZ hw)) hfr hlo m meth c P g ig mk _ X hg hsize hdg hW hn ⟨r1, r2, rfl, hx, sta_is al S, hz⟩
  exact ⟨v, B, X', ⟨[], ⟨hv, rfl, hh⟩, hl, hk, hs⟩, st⟩
end StrChars.Road
namespace StrChars.Road
open Jvm Sem ClassFile Op Lib Jvm.Stand Jvm.Free Jvm.Free.XT
open Jvm.Lib.Cold (StaticIs)
/-- the road's facts of a String, as the laws ask it -/
theorem txt_of {Z U : State} {a0 : Array Value} {kI : Nat} (wi : (Jvm.Cond.instantiable ST kI).before a0 Z = true) (al : Z.vm.Alike U.vm) {x t : Addr} {kb : ClassId} {cs : List Int32} {cd N2 : Int32} {vs : List Value} (E : RoadKit.Exa Z U.heap x ST) (V : RoadKit.Fld Z U.heap x ST "value" "[B" (.ref t)) (C : RoadKit.Fld Z U.heap x ST "coder" "B" (.int cd)) (K : RoadKit.Arv Z U.heap t kb .byte N2 vs (.int 0)) (hc : CodA cs cd N2 vs) (hb : ∀ c ∈ cs, ¬ c < 0 ∧ ¬ (65535 : Int32) < c) (l2 : cs.length ≤ 4000) :
    ∃ A, Txt x t A cd cs.length (fun j => cs.getD j 0) U := by
  obtain ⟨A, K1, K2, K3, K4, K5, K6⟩ := K
  have hcod := hc.cod (by omega) K3 K5
  obtain ⟨D, fV, fC, hB, F1, F2, g1, g2, -, -⟩ := strObj wi al E V C
  exact ⟨A, ⟨_, hB.2.2.1, D, hB.1, rfl, by cases q : D.vm <;> first | rfl | exact absurd q (hB.2.1.2 _)⟩, Has.of hB F1 g1, Has.of hB F2 g2, ⟨K1.1, State.isArrayOf_alike al K1.2.1, K1.2.2, by rcases hcod with ⟨-, q, -⟩ | ⟨-, q, -⟩ <;> omega⟩, hcod, fun j hj => by
    have e : cs.getD j 0 = cs[j] := by simp [List.getD_eq_getElem?_getD, hj]
    show ¬ cs.getD j 0 < 0 ∧ ¬ 65535 < cs.getD j 0
    rw [e]; exact hb _ (List.getElem_mem _)⟩
end StrChars.Road
namespace StrChars
open Jvm Sem ClassFile Op Lib Jvm.Stand Jvm.Free.XT Jvm.Free.ALB Jvm.Free.JM Jvm.Free
open Jvm.Lib.Cold (StaticIs)
namespace ChN
def yN : MethodName := ⟨"java/lang/String", "charAt", "(I)C"⟩
abbrev yB : ByteArray := jdk_42_method_56_code
theorem d0 : decode yB 0 = .ok (.aload_n 0, 1) := by decide +kernel
theorem d1 : decode yB 1 = .ok (.invokevirtual 492, 3) := by decide +kernel
theorem d4 : decode yB 4 = .ok (.ifCond (.eq) 12, 3) := by decide +kernel
theorem d7 : decode yB 7 = .ok (.aload_n 0, 1) := by decide +kernel
theorem d8 : decode yB 8 = .ok (.getfield 9, 3) := by decide +kernel
theorem d11 : decode yB 11 = .ok (.iload_n 1, 1) := by decide +kernel
theorem d12 : decode yB 12 = .ok (.invokestatic 495, 3) := by decide +kernel
theorem d15 : decode yB 15 = .ok (.ireturn, 1) := by decide +kernel
def site : List Cond := [.fieldLink "java/lang/String" 9 "java/lang/String" "value" "[B", IsL.tab, LChA.tab] ++ virtW "java/lang/String" 492 "java/lang/String" IsL.yN IsL.yN ++ staticW "java/lang/String" 495 LChA.yN
def tab : Cond := tabOf yN yB 2 (some .char) site
def P (x t : Addr) (V : Cell) (n : Nat) (f : Nat → Int32) (z : Int32) (fm : Value) (i : Nat) (args : Array Value) (s : State) : Prop := args = #[.ref x, .int (Int32.ofNat i)] ∧ Txt x t V 0 n f s ∧ i < n ∧ StaticIs s "java/lang/String" "COMPACT_STRINGS" "Z" (.int z) ∧ ¬ z = 0 ∧ StaticIs s "jdk/internal/util/Preconditions" "SIOOBE_FORMATTER" "Ljava/util/function/BiFunction;" fm ∧ fm.isRef = true
def E (f : Nat → Int32) (i : Nat) (r : Option Value) (s u : State) : Prop := XT.PureE (some (.int (f i))) r s u
/-- charAt(i) of a Latin-1 String of n chars, i < n: f i -/
theorem law (l : Launch) (x t : Addr) (V : Cell) (n : Nat) (f : Nat → Int32) (z : Int32) (fm : Value) (i : Nat) : Law l yN 2 1 3 40 yB 2 (some .char) site (P x t V n f z fm i) (E f i) [] 0 0 := by
  refine Law.of_walk (plainFor_of_name (by decide +kernel)) (by decide +kernel) (by decide +kernel) (by decide) (fun _ _ h => by rw [h.1]; rfl) (fun _ U U' hal hh h => ⟨h.1, h.2.1.mv hal hh, h.2.2.1, h.2.2.2.1.there hal hh, h.2.2.2.2.1, h.2.2.2.2.2.1.there hal hh, h.2.2.2.2.2.2⟩) (fun r U U' V V' h1 hal h2 h => XT.PureE.mv r U U' V V' h1 hal h2 h) ?_
  intro p e s m args below meth c s₁ X0 hexec hbytes hml hret hlk hnm hown hh0 W hP
  obtain ⟨rfl, hx, hi, s1, hz, s3, rf⟩ := hP
  have v31 := hx.2.2.2.1.2.2.2
  have hr := hx.2.2.2.2.2 i hi
  have hx0 := hx.mv X0.warmed.alike hh0
  have c1 : Steps p.tables e below (s₁.setTop (entryFrame m #[.ref x, .int (Int32.ofNat i)] 2)) (s₁.setTop (mkF m 1 #[.val (.ref x), .val (.int (Int32.ofNat i))] [.ref x])) := Steps.trans (entry rfl) (by
    show Steps p.tables e below (s₁.setTop (mkF m 0 #[.val (.ref x), .val (.int (Int32.ofNat i))] [])) _
    refine XS.aloadN X0.here hexec rfl (hb hbytes d0) rfl rfl ?_
    exact Steps.refl _)
  obtain ⟨v2, T2, X2, E2, g2⟩ := X0.callV hexec (IsL.law l x 0 z) hown (wks W (virtW "java/lang/String" 492 "java/lang/String" IsL.yN IsL.yN)) rfl (by decide) (wk W IsL.tab) (W := 0) (Nat.le_of_ble_eq_true rfl) (Nat.le_of_ble_eq_true rfl) (Nat.le_refl _) (Nat.le_refl _) (hx0.1.fc X0.warmed.alike) hx0.1.is (g := (mkF m 1 #[.val (.ref x), .val (.int (Int32.ofNat i))] [.ref x])) rfl (by rw [hml]; rfl) c1 (argsL := []) (rest := []) rfl rfl (by show 2 * 0 + 0 ≤ _; decide) (hb hbytes d1) (⟨rfl, hx0.2.2.1, hx.2.2.2.2.1.cd, s1.there X0.warmed.alike hh0, hz⟩)
  obtain ⟨rfl, q2⟩ := E2
  have hh2 := q2.trans hh0
  have hx2 := hx.mv X2.warmed.alike hh2
  obtain ⟨-, k1, k2⟩ | ⟨k0, -⟩ := hx.2.2.2.2.1
  · have c3 : Steps p.tables e below (s₁.setTop (entryFrame m #[.ref x, .int (Int32.ofNat i)] 2)) (T2.setTop (mkF m 8 #[.val (.ref x), .val (.int (Int32.ofNat i))] [.ref x])) := Steps.trans g2 (by
      refine XS.ifNo X2.here hexec rfl (hb hbytes d4) rfl (i0_eq_f (by decide)) ?_
      refine XS.aloadN X2.here hexec rfl (hb hbytes d7) rfl rfl ?_
      exact Steps.refl _)
    obtain ⟨T4, X4, q4, st4⟩ := X2.hget hexec hown (wk W (.fieldLink "java/lang/String" 9 "java/lang/String" "value" "[B")) hx2.2.1 (g := (mkF m 8 #[.val (.ref x), .val (.int (Int32.ofNat i))] [.ref x])) rfl (rest := []) rfl (hb hbytes d8)
    have hh4 := q4.trans hh2
    have c5 : Steps p.tables e below (s₁.setTop (entryFrame m #[.ref x, .int (Int32.ofNat i)] 2)) (T4.setTop (mkF m 12 #[.val (.ref x), .val (.int (Int32.ofNat i))] [.int (Int32.ofNat i), .ref t])) := (c3.trans (st4 _ (Steps.refl _))).trans (by
      refine XS.iloadN X4.here hexec rfl (hb hbytes d11) rfl ?_
      exact Steps.refl _)
    obtain ⟨v6, T6, X6, E6, g6⟩ := X4.callS hexec (LChA.law l t V i (lo8 (f i)) fm) hown (wks W (staticW "java/lang/String" 495 LChA.yN)) (wk W LChA.tab) (W := 0) (Nat.le_of_ble_eq_true rfl) (Nat.le_of_ble_eq_true rfl) (Nat.le_refl _) (Nat.le_refl _) (g := (mkF m 12 #[.val (.ref x), .val (.int (Int32.ofNat i))] [.int (Int32.ofNat i), .ref t])) rfl (by rw [hml]; rfl) c5 (argsL := [.ref t, .int (Int32.ofNat i)]) (rest := []) rfl rfl (by show 2 * 0 + 0 ≤ _; decide) (hb hbytes d12) (⟨rfl, hx.2.2.2.1.mv X4.warmed.alike hh4, (k2 i hi).1, s3.there X4.warmed.alike hh4, rf⟩)
    obtain ⟨rfl, q6⟩ := E6
    rw [chr8_lo8 hr.1 (k2 i hi).2] at g6
    exact ⟨T6, some (.int (f i)), _, _, _, X6, rfl, rfl, rfl, (fun h => by cases h), ⟨rfl, q6.trans hh4⟩, fun fs hl => Steps.trans g6 (X6.ireturnOut hexec hret (narrow_ch hr.1 hr.2) (Or.inr (Or.inr (Or.inr (Or.inl rfl)))) (hb hbytes d15) hl)⟩
  · exact absurd k0 (by decide)
theorem pays {l : Launch} {R : Room} {p : Program} {e : Env} {below : List Frame} {s : State} {sargs : Array Value} {len W : Nat} (x t : Addr) (V : Cell) (n : Nat) (f : Nat → Int32) (z : Int32) (fm : Value) (i : Nat) (htab : tab.before sargs s = true) (hfr : 4 ≤ R.frames) (hlo : W + 53 ≤ R.locals) :
    Back l R p e below s sargs yN len W (fun A₁ a₁ => A₁.cells + 0 ≤ R.cells ∧ A₁.slots + 0 ≤ R.slots ∧ P x t V n f z fm i a₁ A₁.U) (fun A₁ _ v₁ B₁ => E f i v₁ A₁.U B₁.U ∧ B₁.locs = A₁.locs ++ [] ∧ B₁.cells = A₁.cells + 0 ∧ B₁.slots = A₁.slots + 0) :=
  (law l x t V n f z fm i).pays htab hfr (by omega)
end ChN
end StrChars
namespace StrChars.Road
open Jvm Sem ClassFile Op Lib Jvm.Stand Jvm.Free Jvm.Free.XT
open Jvm.Lib.Cold (StaticIs)
/-- the words of String.charAt(int), the Latin-1 road alone -/
abbrev wordsChN : List Jvm.Cond := [.code ChN.yN ChN.yB 2 (some .char), .initialized ST, .fieldLink ST 9 ST "value" "[B", .fieldLink ST 38 ST "COMPACT_STRINGS" "Z", .fieldLink ST 15 ST "coder" "B", .code IsL.yN IsL.yB 1 (some .boolean), .methodLink ST 492 IsL.yN, .declares IsL.yN, .selects ST IsL.yN IsL.yN, .instanceMethod IsL.yN,
  .methodLink ST 495 LChA.yN, .static LChA.yN, .code LChA.yN LChA.yB 2 (some .char), .initialized "java/lang/StringLatin1", .methodLink "java/lang/StringLatin1" 9 JO.Str_checkIndex.yN, .static JO.Str_checkIndex.yN, .code JO.Str_checkIndex.yN JO.Str_checkIndex.yB 2 none,
  .fieldLink ST 1053 "jdk/internal/util/Preconditions" "SIOOBE_FORMATTER" "Ljava/util/function/BiFunction;", .methodLink ST 1059 JC.PreCheck.yN, .static JC.PreCheck.yN, .code JC.PreCheck.yN JC.PreCheck.yB 3 (some .int), .initialized "jdk/internal/util/Preconditions"]
theorem tabChN_of {a : Array Value} {s : State} (h : ∀ w ∈ wordsChN, w.before a s = true) : ChN.tab.before a s = true := by
  have hp : JC.PreCheck.tab.before a s = true := unparts (wk h (.code JC.PreCheck.yN JC.PreCheck.yB 3 (some .int))) (wks h (.initialized JC.PreCheck.yN.cls :: JC.PreCheck.site))
  have qk := consq hp h
  have hk : JO.Str_checkIndex.tab.before a s = true := unparts (wk qk (.code JO.Str_checkIndex.yN JO.Str_checkIndex.yB 2 none)) (wks qk (.initialized JO.Str_checkIndex.yN.cls :: JO.Str_checkIndex.site))
  have ql := consq hk h
  have hl : LChA.tab.before a s = true := unparts (wk ql (.code LChA.yN LChA.yB 2 (some .char))) (wks ql (.initialized LChA.yN.cls :: LChA.site))
  have hi : IsL.tab.before a s = true := unparts (wk h (.code IsL.yN IsL.yB 1 (some .boolean))) (wks h (.initialized IsL.yN.cls :: IsL.site))
  have q := consq hi (consq hl h)
  exact unparts (wk q (.code ChN.yN ChN.yB 2 (some .char))) (wks q (.initialized ChN.yN.cls :: ChN.site))
theorem movedChN {Z s : State} {a0 args : Array Value} (hZ : Z.Warmed39 s.vm) (hw : ∀ d ∈ wordsChN, d.before a0 Z = true) : ∀ d ∈ wordsChN, d.before args s = true := fun d hd => by
  have t : ∀ d ∈ wordsChN, (d.onTables && d.keepsFace) = true := by decide +kernel
  exact RoadKit.mv hZ (hw d hd) (t d hd)
/-- **charAt(i) OF A LATIN-1 STRING**, i < n: the char -/
theorem chN {p : Program} {l : Launch} {e : Env} {R : Room} {s : State} {args : Array Value} {below : List Frame} {len W : Nat} {Z : State} {a0 : Array Value} {h : Heap} (hZ : Z.Warmed39 s.vm) (hw : ∀ d ∈ wordsChN, d.before a0 Z = true) {kI : Nat} (wi : (Jvm.Cond.instantiable ST kI).before a0 Z = true)
    {x t : Addr} {kb : ClassId} {cs : List Int32} {N2 z : Int32} {vs : List Value} {fm : Value} {i : Nat} {j : Int32} (E : RoadKit.Exa Z h x ST) (V : RoadKit.Fld Z h x ST "value" "[B" (.ref t)) (C : RoadKit.Fld Z h x ST "coder" "B" (.int 0)) (K : RoadKit.Arv Z h t kb .byte N2 vs (.int 0)) (hc : CodA cs 0 N2 vs) (hb : ∀ c ∈ cs, ¬ c < 0 ∧ ¬ (65535 : Int32) < c)
    (S : RoadKit.Sta Z h ST "COMPACT_STRINGS" "Z" (.int z)) (hz : ¬ z = 0) (F : RoadKit.Sta Z h "jdk/internal/util/Preconditions" "SIOOBE_FORMATTER" "Ljava/util/function/BiFunction;" fm) (rf : fm.isRef = true) (l2 : cs.length ≤ 4000) (hi : i < cs.length) (hj : j = Int32.ofNat i) (hfr : 4 ≤ R.frames) (hlo : W + 53 ≤ R.locals) :
    Back l R p e below s args (⟨"java/lang/String", "charAt", "(I)C"⟩ : MethodName) len W (fun P a => a = #[.ref x, .int j] ∧ P.U.heap = h ∧ P.cells + 0 ≤ R.cells ∧ P.slots + 0 ≤ R.slots)
      (fun P _ v B => ∃ L, (v = some (.int (cs.getD i 0)) ∧ L = [] ∧ B.U.heap = h) ∧ B.locs = P.locs ++ L ∧ B.cells = P.cells + 0 ∧ B.slots = P.slots + 0) := by
  subst hj
  intro m meth c P g ig mk a X hg hsize hdg hW hn hp'
  obtain ⟨rfl, rfl, r1, r2⟩ := hp'
  have al : Z.vm.Alike P.U.vm := hZ.alike.trans X.warmed.alike
  obtain ⟨A, hx⟩ := txt_of wi al E V C K hc hb l2
  obtain ⟨v, B, X', ⟨⟨hv, hh⟩, hl, hk, hs⟩, st⟩ := ChN.pays x t A cs.length (fun j => cs.getD j 0) z fm i (tabChN_of (movedChN hZ hw)) hfr hlo m meth c P g ig mk _ X hg hsize hdg hW hn ⟨r1, r2, rfl, hx, hi, sta_is al S, hz, sta_is al F, rf⟩
  exact ⟨v, B, X', ⟨[], ⟨hv, rfl, hh⟩, hl, hk, hs⟩, st⟩
/-- what backV says of its String, as the contracts of this text ask it: cs's low bytes, coder 0 -/
theorem codOf {cs : List Int32} {n : Nat} (hn : cs.length = n) (hb : ∀ c ∈ cs, ¬ 255 < c) : CodA cs 0 (Int32.ofNat n) ((cs.map lo8).map Value.int) := Or.inl ⟨rfl, by rw [hn], by simp [List.map_map, Function.comp_def], hb⟩
end StrChars.Road
end Jvm.Pilot.@@N@@
namespace Jvm.Pilot.@@N@@
open Jvm Jvm.ClassFile Sem Op Lib Jvm.Free Jvm.Stand Jvm.LawKit Jvm.RoadKit Bundle Jvm.Own Jvm.Pilot.@@N@@.Jvm.D
abbrev vI (x : Int32) : Slot := .val (.int x)
abbrev vJ (x : Int64) : Slot := .val (.long x)
abbrev vR (x : Addr) : Slot := .val (.ref x)
abbrev vU : Slot := .unset
abbrev Y_0 : Jvm.MethodName := ({ cls := "java/lang/Throwable", name := "<init>", desc := "(Ljava/lang/String;)V" } : Jvm.MethodName)
abbrev Y_1 : Jvm.MethodName := ({ cls := "java/lang/Exception", name := "<init>", desc := "(Ljava/lang/String;)V" } : Jvm.MethodName)
abbrev Y_2 : Jvm.MethodName := ({ cls := "java/lang/RuntimeException", name := "<init>", desc := "(Ljava/lang/String;)V" } : Jvm.MethodName)
abbrev Y_3 : Jvm.MethodName := ({ cls := "java/lang/IllegalArgumentException", name := "<init>", desc := "(Ljava/lang/String;)V" } : Jvm.MethodName)
abbrev Y_4 : Jvm.MethodName := ({ cls := "java/lang/AbstractStringBuilder", name := "<init>", desc := "(I)V" } : Jvm.MethodName)
abbrev Y_5 : Jvm.MethodName := ({ cls := "java/lang/String", name := "coder", desc := "()B" } : Jvm.MethodName)
abbrev Y_6 : Jvm.MethodName := ({ cls := "java/lang/AbstractStringBuilder", name := "inflateIfNeededFor", desc := "(Ljava/lang/String;)V" } : Jvm.MethodName)
abbrev Y_7 : Jvm.MethodName := ({ cls := "java/lang/String", name := "getBytes", desc := "([BIB)V" } : Jvm.MethodName)
abbrev Y_8 : Jvm.MethodName := ({ cls := "java/lang/String", name := "length", desc := "()I" } : Jvm.MethodName)
abbrev Y_9 : Jvm.MethodName := ({ cls := "java/lang/AbstractStringBuilder", name := "ensureCapacityInternal", desc := "(I)V" } : Jvm.MethodName)
abbrev Y_10 : Jvm.MethodName := ({ cls := "java/lang/AbstractStringBuilder", name := "putStringAt", desc := "(ILjava/lang/String;)V" } : Jvm.MethodName)
abbrev Y_11 : Jvm.MethodName := ({ cls := "java/lang/AbstractStringBuilder", name := "append", desc := "(Ljava/lang/String;)Ljava/lang/AbstractStringBuilder;" } : Jvm.MethodName)
abbrev Y_12 : Jvm.MethodName := ({ cls := "java/util/Arrays", name := "checkLength", desc := "(II)V" } : Jvm.MethodName)
abbrev Y_13 : Jvm.MethodName := ({ cls := "java/lang/Math", name := "min", desc := "(II)I" } : Jvm.MethodName)
abbrev Y_14 : Jvm.MethodName := ({ cls := "java/util/Arrays", name := "copyOfRangeByte", desc := "([BII)[B" } : Jvm.MethodName)
abbrev Y_15 : Jvm.MethodName := ({ cls := "java/lang/AbstractStringBuilder", name := "length", desc := "()I" } : Jvm.MethodName)
abbrev Y_16 : Jvm.MethodName := ({ cls := "java/lang/AbstractStringBuilder", name := "getValue", desc := "()[B" } : Jvm.MethodName)
abbrev Y_17 : Jvm.MethodName := ({ cls := "java/lang/StringBuilder", name := "length", desc := "()I" } : Jvm.MethodName)
abbrev Y_18 : Jvm.MethodName := ({ cls := "java/lang/AbstractStringBuilder", name := "isLatin1", desc := "()Z" } : Jvm.MethodName)
abbrev Y_19 : Jvm.MethodName := ({ cls := "java/util/Arrays", name := "copyOfRange", desc := "([BII)[B" } : Jvm.MethodName)
abbrev Y_20 : Jvm.MethodName := ({ cls := "java/lang/String", name := "<init>", desc := "(Ljava/lang/AbstractStringBuilder;Ljava/lang/Void;)V" } : Jvm.MethodName)
abbrev Y_21 : Jvm.MethodName := ({ cls := "java/lang/String", name := "<init>", desc := "(Ljava/lang/StringBuilder;)V" } : Jvm.MethodName)
abbrev Y_22 : Jvm.MethodName := ({ cls := "java/lang/StringBuilder", name := "<init>", desc := "()V" } : Jvm.MethodName)
abbrev Y_23 : Jvm.MethodName := ({ cls := "java/lang/StringBuilder", name := "append", desc := "(Ljava/lang/String;)Ljava/lang/StringBuilder;" } : Jvm.MethodName)
abbrev Y_24 : Jvm.MethodName := ({ cls := "com/example/hallstatt/hallstatt/InvalidValueException", name := "getMessage", desc := "()Ljava/lang/String;" } : Jvm.MethodName)
abbrev Y_25 : Jvm.MethodName := ({ cls := "java/lang/Throwable", name := "getMessage", desc := "()Ljava/lang/String;" } : Jvm.MethodName)
abbrev Y_26 : Jvm.MethodName := ({ cls := "java/lang/StringBuilder", name := "toString", desc := "()Ljava/lang/String;" } : Jvm.MethodName)
abbrev Y_27 : Jvm.MethodName := ({ cls := "com/example/hallstatt/hallstatt/InvalidValueException", name := "<init>", desc := "(Ljava/lang/String;)V" } : Jvm.MethodName)
abbrev Y_28 : Jvm.MethodName := ({ cls := "java/lang/String", name := "charAt", desc := "(I)C" } : Jvm.MethodName)
abbrev Y_29 : Jvm.MethodName := ({ cls := "java/lang/String", name := "<init>", desc := "([CIILjava/lang/Void;)V" } : Jvm.MethodName)
abbrev Y_30 : Jvm.MethodName := ({ cls := "java/lang/StringLatin1", name := "canEncode", desc := "(C)Z" } : Jvm.MethodName)
abbrev Y_31 : Jvm.MethodName := ({ cls := "java/lang/StringLatin1", name := "toBytes", desc := "(C)[B" } : Jvm.MethodName)
abbrev Y_32 : Jvm.MethodName := ({ cls := "java/lang/String", name := "<init>", desc := "([BB)V" } : Jvm.MethodName)
abbrev Y_33 : Jvm.MethodName := ({ cls := "java/lang/String", name := "<init>", desc := "([C)V" } : Jvm.MethodName)
abbrev Y_34 : Jvm.MethodName := ({ cls := "java/lang/String", name := "valueOf", desc := "(C)Ljava/lang/String;" } : Jvm.MethodName)
abbrev Y_35 : Jvm.MethodName := ({ cls := "com/example/hallstatt/hallstatt/InvalidValueExceptionWithinPinLaw", name := "mk", desc := "(III)Ljava/lang/String;" } : Jvm.MethodName)
abbrev Y_36 : Jvm.MethodName := ({ cls := "com/example/hallstatt/hallstatt/InvalidValueException", name := "within", desc := "(Ljava/lang/String;)Lcom/example/hallstatt/hallstatt/InvalidValueException;" } : Jvm.MethodName)
abbrev Y_37 : Jvm.MethodName := ({ cls := "com/example/hallstatt/hallstatt/InvalidValueExceptionWithinPinLaw", name := "at", desc := "(Ljava/lang/String;Ljava/lang/String;Ljava/lang/String;I)Z" } : Jvm.MethodName)
abbrev Y_38 : Jvm.MethodName := ({ cls := "java/lang/String", name := "equals", desc := "(Ljava/lang/Object;)Z" } : Jvm.MethodName)
theorem wd_0 {a0 : Array Value} {Z : State} (hw : ∀ d ∈ tables_1, d.before a0 Z = true) : (Jvm.Cond.methodLink "com/example/hallstatt/hallstatt/InvalidValueExceptionWithinPinLaw" (7 : Nat) ({ cls := "com/example/hallstatt/hallstatt/InvalidValueExceptionWithinPinLaw", name := "mk", desc := "(III)Ljava/lang/String;" } : Jvm.MethodName)).before a0 Z = true := hw _ (List.mem_of_getElem? (i := 0) rfl)
theorem wd_1 {a0 : Array Value} {Z : State} (hw : ∀ d ∈ tables_1, d.before a0 Z = true) : (Jvm.Cond.static ({ cls := "com/example/hallstatt/hallstatt/InvalidValueExceptionWithinPinLaw", name := "mk", desc := "(III)Ljava/lang/String;" } : Jvm.MethodName)).before a0 Z = true := hw _ (List.mem_of_getElem? (i := 1) rfl)
theorem wd_2 {a0 : Array Value} {Z : State} (hw : ∀ d ∈ tables_1, d.before a0 Z = true) : (Jvm.Cond.initialized "com/example/hallstatt/hallstatt/InvalidValueExceptionWithinPinLaw").before a0 Z = true := hw _ (List.mem_of_getElem? (i := 2) rfl)
theorem wd_3 {a0 : Array Value} {Z : State} (hw : ∀ d ∈ tables_1, d.before a0 Z = true) : (Jvm.Cond.code ({ cls := "com/example/hallstatt/hallstatt/InvalidValueExceptionWithinPinLaw", name := "mk", desc := "(III)Ljava/lang/String;" } : Jvm.MethodName) method_3_code (3 : Nat) (Option.some (Jvm.ClassFile.FieldType.object "java/lang/String"))).before a0 Z = true := hw _ (List.mem_of_getElem? (i := 3) rfl)
theorem wd_4 {a0 : Array Value} {Z : State} (hw : ∀ d ∈ tables_1, d.before a0 Z = true) : (Jvm.Cond.classLink "com/example/hallstatt/hallstatt/InvalidValueExceptionWithinPinLaw" (27 : Nat) "java/lang/String").before a0 Z = true := hw _ (List.mem_of_getElem? (i := 4) rfl)
theorem wd_5 {a0 : Array Value} {Z : State} (hw : ∀ d ∈ tables_1, d.before a0 Z = true) : (Jvm.Cond.instantiable "java/lang/String" (4 : Nat)).before a0 Z = true := hw _ (List.mem_of_getElem? (i := 5) rfl)
theorem wd_6 {a0 : Array Value} {Z : State} (hw : ∀ d ∈ tables_1, d.before a0 Z = true) : (Jvm.Cond.initialized "java/lang/String").before a0 Z = true := hw _ (List.mem_of_getElem? (i := 6) rfl)
theorem wd_7 {a0 : Array Value} {Z : State} (hw : ∀ d ∈ tables_1, d.before a0 Z = true) : (Jvm.Cond.arrayClass Jvm.ClassFile.FieldType.char).before a0 Z = true := hw _ (List.mem_of_getElem? (i := 7) rfl)
theorem wd_8 {a0 : Array Value} {Z : State} (hw : ∀ d ∈ tables_1, d.before a0 Z = true) : (Jvm.Cond.methodLink "com/example/hallstatt/hallstatt/InvalidValueExceptionWithinPinLaw" (40 : Nat) ({ cls := "java/lang/String", name := "<init>", desc := "([C)V" } : Jvm.MethodName)).before a0 Z = true := hw _ (List.mem_of_getElem? (i := 8) rfl)
theorem wd_9 {a0 : Array Value} {Z : State} (hw : ∀ d ∈ tables_1, d.before a0 Z = true) : (Jvm.Cond.instanceMethod ({ cls := "java/lang/String", name := "<init>", desc := "([C)V" } : Jvm.MethodName)).before a0 Z = true := hw _ (List.mem_of_getElem? (i := 9) rfl)
theorem wd_10 {a0 : Array Value} {Z : State} (hw : ∀ d ∈ tables_1, d.before a0 Z = true) : (Jvm.Cond.code ({ cls := "java/lang/String", name := "<init>", desc := "([C)V" } : Jvm.MethodName) jdk_42_method_3_code (2 : Nat) (Option.none : Option Jvm.ClassFile.FieldType)).before a0 Z = true := hw _ (List.mem_of_getElem? (i := 10) rfl)
theorem wd_11 {a0 : Array Value} {Z : State} (hw : ∀ d ∈ tables_1, d.before a0 Z = true) : (Jvm.Cond.methodLink "java/lang/String" (27 : Nat) ({ cls := "java/lang/String", name := "<init>", desc := "([CIILjava/lang/Void;)V" } : Jvm.MethodName)).before a0 Z = true := hw _ (List.mem_of_getElem? (i := 11) rfl)
theorem wd_12 {a0 : Array Value} {Z : State} (hw : ∀ d ∈ tables_1, d.before a0 Z = true) : (Jvm.Cond.instanceMethod ({ cls := "java/lang/String", name := "<init>", desc := "([CIILjava/lang/Void;)V" } : Jvm.MethodName)).before a0 Z = true := hw _ (List.mem_of_getElem? (i := 12) rfl)
theorem wd_14 {a0 : Array Value} {Z : State} (hw : ∀ d ∈ tables_1, d.before a0 Z = true) : (Jvm.Cond.code ({ cls := "java/lang/String", name := "<init>", desc := "([CIILjava/lang/Void;)V" } : Jvm.MethodName) jdk_42_method_149_code (6 : Nat) (Option.none : Option Jvm.ClassFile.FieldType)).before a0 Z = true := hw _ (List.mem_of_getElem? (i := 14) rfl)
theorem wd_15 {a0 : Array Value} {Z : State} (hw : ∀ d ∈ tables_1, d.before a0 Z = true) : (Jvm.Cond.methodLink "java/lang/String" (1 : Nat) ({ cls := "java/lang/Object", name := "<init>", desc := "()V" } : Jvm.MethodName)).before a0 Z = true := hw _ (List.mem_of_getElem? (i := 15) rfl)
theorem wd_16 {a0 : Array Value} {Z : State} (hw : ∀ d ∈ tables_1, d.before a0 Z = true) : (Jvm.Cond.instanceMethod ({ cls := "java/lang/Object", name := "<init>", desc := "()V" } : Jvm.MethodName)).before a0 Z = true := hw _ (List.mem_of_getElem? (i := 16) rfl)
theorem wd_17 {a0 : Array Value} {Z : State} (hw : ∀ d ∈ tables_1, d.before a0 Z = true) : (Jvm.Cond.code ({ cls := "java/lang/Object", name := "<init>", desc := "()V" } : Jvm.MethodName) object_method_1_code (1 : Nat) (Option.none : Option Jvm.ClassFile.FieldType)).before a0 Z = true := hw _ (List.mem_of_getElem? (i := 17) rfl)
theorem wd_18 {a0 : Array Value} {Z : State} (hw : ∀ d ∈ tables_1, d.before a0 Z = true) : (Jvm.Cond.fieldLink "java/lang/String" (38 : Nat) "java/lang/String" "COMPACT_STRINGS" "Z").before a0 Z = true := hw _ (List.mem_of_getElem? (i := 18) rfl)
theorem wd_23 {a0 : Array Value} {Z : State} (hw : ∀ d ∈ tables_1, d.before a0 Z = true) : (Jvm.Cond.arrayClass Jvm.ClassFile.FieldType.byte).before a0 Z = true := hw _ (List.mem_of_getElem? (i := 23) rfl)
theorem wd_30 {a0 : Array Value} {Z : State} (hw : ∀ d ∈ tables_1, d.before a0 Z = true) : (Jvm.Cond.fieldLink "java/lang/String" (15 : Nat) "java/lang/String" "coder" "B").before a0 Z = true := hw _ (List.mem_of_getElem? (i := 30) rfl)
theorem wd_31 {a0 : Array Value} {Z : State} (hw : ∀ d ∈ tables_1, d.before a0 Z = true) : (Jvm.Cond.laysFinal "java/lang/String" "java/lang/String" "coder" "B").before a0 Z = true := hw _ (List.mem_of_getElem? (i := 31) rfl)
theorem wd_32 {a0 : Array Value} {Z : State} (hw : ∀ d ∈ tables_1, d.before a0 Z = true) : (Jvm.Cond.fieldLink "java/lang/String" (9 : Nat) "java/lang/String" "value" "[B").before a0 Z = true := hw _ (List.mem_of_getElem? (i := 32) rfl)
theorem wd_33 {a0 : Array Value} {Z : State} (hw : ∀ d ∈ tables_1, d.before a0 Z = true) : (Jvm.Cond.laysFinal "java/lang/String" "java/lang/String" "value" "[B").before a0 Z = true := hw _ (List.mem_of_getElem? (i := 33) rfl)
theorem wd_34 {a0 : Array Value} {Z : State} (hw : ∀ d ∈ tables_1, d.before a0 Z = true) : (Jvm.Cond.stringLink "java/lang/String" (7 : Nat) "").before a0 Z = true := hw _ (List.mem_of_getElem? (i := 34) rfl)
theorem wd_37 {a0 : Array Value} {Z : State} (hw : ∀ d ∈ tables_1, d.before a0 Z = true) : (Jvm.Cond.classLink "com/example/hallstatt/hallstatt/InvalidValueExceptionWithinPinLaw" (13 : Nat) "com/example/hallstatt/hallstatt/InvalidValueException").before a0 Z = true := hw _ (List.mem_of_getElem? (i := 37) rfl)
theorem wd_38 {a0 : Array Value} {Z : State} (hw : ∀ d ∈ tables_1, d.before a0 Z = true) : (Jvm.Cond.instantiable "com/example/hallstatt/hallstatt/InvalidValueException" (6 : Nat)).before a0 Z = true := hw _ (List.mem_of_getElem? (i := 38) rfl)
theorem wd_39 {a0 : Array Value} {Z : State} (hw : ∀ d ∈ tables_1, d.before a0 Z = true) : (Jvm.Cond.initialized "com/example/hallstatt/hallstatt/InvalidValueException").before a0 Z = true := hw _ (List.mem_of_getElem? (i := 39) rfl)
theorem wd_40 {a0 : Array Value} {Z : State} (hw : ∀ d ∈ tables_1, d.before a0 Z = true) : (Jvm.Cond.methodLink "com/example/hallstatt/hallstatt/InvalidValueExceptionWithinPinLaw" (15 : Nat) ({ cls := "com/example/hallstatt/hallstatt/InvalidValueException", name := "<init>", desc := "(Ljava/lang/String;)V" } : Jvm.MethodName)).before a0 Z = true := hw _ (List.mem_of_getElem? (i := 40) rfl)
theorem wd_41 {a0 : Array Value} {Z : State} (hw : ∀ d ∈ tables_1, d.before a0 Z = true) : (Jvm.Cond.instanceMethod ({ cls := "com/example/hallstatt/hallstatt/InvalidValueException", name := "<init>", desc := "(Ljava/lang/String;)V" } : Jvm.MethodName)).before a0 Z = true := hw _ (List.mem_of_getElem? (i := 41) rfl)
theorem wd_42 {a0 : Array Value} {Z : State} (hw : ∀ d ∈ tables_1, d.before a0 Z = true) : (Jvm.Cond.code ({ cls := "com/example/hallstatt/hallstatt/InvalidValueException", name := "<init>", desc := "(Ljava/lang/String;)V" } : Jvm.MethodName) prog_3_method_1_code (2 : Nat) (Option.none : Option Jvm.ClassFile.FieldType)).before a0 Z = true := hw _ (List.mem_of_getElem? (i := 42) rfl)
theorem wd_43 {a0 : Array Value} {Z : State} (hw : ∀ d ∈ tables_1, d.before a0 Z = true) : (Jvm.Cond.methodLink "com/example/hallstatt/hallstatt/InvalidValueException" (1 : Nat) ({ cls := "java/lang/IllegalArgumentException", name := "<init>", desc := "(Ljava/lang/String;)V" } : Jvm.MethodName)).before a0 Z = true := hw _ (List.mem_of_getElem? (i := 43) rfl)
theorem wd_44 {a0 : Array Value} {Z : State} (hw : ∀ d ∈ tables_1, d.before a0 Z = true) : (Jvm.Cond.instanceMethod ({ cls := "java/lang/IllegalArgumentException", name := "<init>", desc := "(Ljava/lang/String;)V" } : Jvm.MethodName)).before a0 Z = true := hw _ (List.mem_of_getElem? (i := 44) rfl)
theorem wd_46 {a0 : Array Value} {Z : State} (hw : ∀ d ∈ tables_1, d.before a0 Z = true) : (Jvm.Cond.initialized "java/lang/IllegalArgumentException").before a0 Z = true := hw _ (List.mem_of_getElem? (i := 46) rfl)
theorem wd_47 {a0 : Array Value} {Z : State} (hw : ∀ d ∈ tables_1, d.before a0 Z = true) : (Jvm.Cond.code ({ cls := "java/lang/IllegalArgumentException", name := "<init>", desc := "(Ljava/lang/String;)V" } : Jvm.MethodName) jdk_57_method_2_code (2 : Nat) (Option.none : Option Jvm.ClassFile.FieldType)).before a0 Z = true := hw _ (List.mem_of_getElem? (i := 47) rfl)
theorem wd_48 {a0 : Array Value} {Z : State} (hw : ∀ d ∈ tables_1, d.before a0 Z = true) : (Jvm.Cond.methodLink "java/lang/IllegalArgumentException" (7 : Nat) ({ cls := "java/lang/RuntimeException", name := "<init>", desc := "(Ljava/lang/String;)V" } : Jvm.MethodName)).before a0 Z = true := hw _ (List.mem_of_getElem? (i := 48) rfl)
theorem wd_49 {a0 : Array Value} {Z : State} (hw : ∀ d ∈ tables_1, d.before a0 Z = true) : (Jvm.Cond.instanceMethod ({ cls := "java/lang/RuntimeException", name := "<init>", desc := "(Ljava/lang/String;)V" } : Jvm.MethodName)).before a0 Z = true := hw _ (List.mem_of_getElem? (i := 49) rfl)
theorem wd_52 {a0 : Array Value} {Z : State} (hw : ∀ d ∈ tables_1, d.before a0 Z = true) : (Jvm.Cond.initialized "java/lang/RuntimeException").before a0 Z = true := hw _ (List.mem_of_getElem? (i := 52) rfl)
theorem wd_53 {a0 : Array Value} {Z : State} (hw : ∀ d ∈ tables_1, d.before a0 Z = true) : (Jvm.Cond.code ({ cls := "java/lang/RuntimeException", name := "<init>", desc := "(Ljava/lang/String;)V" } : Jvm.MethodName) jdk_58_method_2_code (2 : Nat) (Option.none : Option Jvm.ClassFile.FieldType)).before a0 Z = true := hw _ (List.mem_of_getElem? (i := 53) rfl)
theorem wd_54 {a0 : Array Value} {Z : State} (hw : ∀ d ∈ tables_1, d.before a0 Z = true) : (Jvm.Cond.methodLink "java/lang/RuntimeException" (7 : Nat) ({ cls := "java/lang/Exception", name := "<init>", desc := "(Ljava/lang/String;)V" } : Jvm.MethodName)).before a0 Z = true := hw _ (List.mem_of_getElem? (i := 54) rfl)
theorem wd_55 {a0 : Array Value} {Z : State} (hw : ∀ d ∈ tables_1, d.before a0 Z = true) : (Jvm.Cond.instanceMethod ({ cls := "java/lang/Exception", name := "<init>", desc := "(Ljava/lang/String;)V" } : Jvm.MethodName)).before a0 Z = true := hw _ (List.mem_of_getElem? (i := 55) rfl)
theorem wd_58 {a0 : Array Value} {Z : State} (hw : ∀ d ∈ tables_1, d.before a0 Z = true) : (Jvm.Cond.initialized "java/lang/Exception").before a0 Z = true := hw _ (List.mem_of_getElem? (i := 58) rfl)
theorem wd_59 {a0 : Array Value} {Z : State} (hw : ∀ d ∈ tables_1, d.before a0 Z = true) : (Jvm.Cond.code ({ cls := "java/lang/Exception", name := "<init>", desc := "(Ljava/lang/String;)V" } : Jvm.MethodName) jdk_59_method_2_code (2 : Nat) (Option.none : Option Jvm.ClassFile.FieldType)).before a0 Z = true := hw _ (List.mem_of_getElem? (i := 59) rfl)
theorem wd_60 {a0 : Array Value} {Z : State} (hw : ∀ d ∈ tables_1, d.before a0 Z = true) : (Jvm.Cond.methodLink "java/lang/Exception" (7 : Nat) ({ cls := "java/lang/Throwable", name := "<init>", desc := "(Ljava/lang/String;)V" } : Jvm.MethodName)).before a0 Z = true := hw _ (List.mem_of_getElem? (i := 60) rfl)
theorem wd_61 {a0 : Array Value} {Z : State} (hw : ∀ d ∈ tables_1, d.before a0 Z = true) : (Jvm.Cond.instanceMethod ({ cls := "java/lang/Throwable", name := "<init>", desc := "(Ljava/lang/String;)V" } : Jvm.MethodName)).before a0 Z = true := hw _ (List.mem_of_getElem? (i := 61) rfl)
theorem wd_64 {a0 : Array Value} {Z : State} (hw : ∀ d ∈ tables_1, d.before a0 Z = true) : (Jvm.Cond.initialized "java/lang/Throwable").before a0 Z = true := hw _ (List.mem_of_getElem? (i := 64) rfl)
theorem wd_65 {a0 : Array Value} {Z : State} (hw : ∀ d ∈ tables_1, d.before a0 Z = true) : (Jvm.Cond.code ({ cls := "java/lang/Throwable", name := "<init>", desc := "(Ljava/lang/String;)V" } : Jvm.MethodName) jdk_78_method_2_code (2 : Nat) (Option.none : Option Jvm.ClassFile.FieldType)).before a0 Z = true := hw _ (List.mem_of_getElem? (i := 65) rfl)
theorem wd_66 {a0 : Array Value} {Z : State} (hw : ∀ d ∈ tables_1, d.before a0 Z = true) : (Jvm.Cond.methodLink "java/lang/Throwable" (1 : Nat) ({ cls := "java/lang/Object", name := "<init>", desc := "()V" } : Jvm.MethodName)).before a0 Z = true := hw _ (List.mem_of_getElem? (i := 66) rfl)
theorem wd_67 {a0 : Array Value} {Z : State} (hw : ∀ d ∈ tables_1, d.before a0 Z = true) : (Jvm.Cond.fieldLink "java/lang/Throwable" (7 : Nat) "java/lang/Throwable" "cause" "Ljava/lang/Throwable;").before a0 Z = true := hw _ (List.mem_of_getElem? (i := 67) rfl)
theorem wd_68 {a0 : Array Value} {Z : State} (hw : ∀ d ∈ tables_1, d.before a0 Z = true) : (Jvm.Cond.lays "com/example/hallstatt/hallstatt/InvalidValueException" "java/lang/Throwable" "cause" "Ljava/lang/Throwable;").before a0 Z = true := hw _ (List.mem_of_getElem? (i := 68) rfl)
theorem wd_69 {a0 : Array Value} {Z : State} (hw : ∀ d ∈ tables_1, d.before a0 Z = true) : (Jvm.Cond.fieldLink "java/lang/Throwable" (13 : Nat) "java/lang/Throwable" "UNASSIGNED_STACK" "[Ljava/lang/StackTraceElement;").before a0 Z = true := hw _ (List.mem_of_getElem? (i := 69) rfl)
theorem wd_70 {a0 : Array Value} {Z : State} (hw : ∀ d ∈ tables_1, d.before a0 Z = true) : (Jvm.Cond.fieldLink "java/lang/Throwable" (17 : Nat) "java/lang/Throwable" "stackTrace" "[Ljava/lang/StackTraceElement;").before a0 Z = true := hw _ (List.mem_of_getElem? (i := 70) rfl)
theorem wd_71 {a0 : Array Value} {Z : State} (hw : ∀ d ∈ tables_1, d.before a0 Z = true) : (Jvm.Cond.lays "com/example/hallstatt/hallstatt/InvalidValueException" "java/lang/Throwable" "stackTrace" "[Ljava/lang/StackTraceElement;").before a0 Z = true := hw _ (List.mem_of_getElem? (i := 71) rfl)
theorem wd_72 {a0 : Array Value} {Z : State} (hw : ∀ d ∈ tables_1, d.before a0 Z = true) : (Jvm.Cond.fieldLink "java/lang/Throwable" (20 : Nat) "java/lang/Throwable" "SUPPRESSED_SENTINEL" "Ljava/util/List;").before a0 Z = true := hw _ (List.mem_of_getElem? (i := 72) rfl)
theorem wd_73 {a0 : Array Value} {Z : State} (hw : ∀ d ∈ tables_1, d.before a0 Z = true) : (Jvm.Cond.fieldLink "java/lang/Throwable" (24 : Nat) "java/lang/Throwable" "suppressedExceptions" "Ljava/util/List;").before a0 Z = true := hw _ (List.mem_of_getElem? (i := 73) rfl)
theorem wd_74 {a0 : Array Value} {Z : State} (hw : ∀ d ∈ tables_1, d.before a0 Z = true) : (Jvm.Cond.lays "com/example/hallstatt/hallstatt/InvalidValueException" "java/lang/Throwable" "suppressedExceptions" "Ljava/util/List;").before a0 Z = true := hw _ (List.mem_of_getElem? (i := 74) rfl)
theorem wd_75 {a0 : Array Value} {Z : State} (hw : ∀ d ∈ tables_1, d.before a0 Z = true) : (Jvm.Cond.methodLink "java/lang/Throwable" (27 : Nat) ({ cls := "java/lang/Throwable", name := "fillInStackTrace", desc := "()Ljava/lang/Throwable;" } : Jvm.MethodName)).before a0 Z = true := hw _ (List.mem_of_getElem? (i := 75) rfl)
theorem wd_98 {a0 : Array Value} {Z : State} (hw : ∀ d ∈ tables_1, d.before a0 Z = true) : (Jvm.Cond.lays "com/example/hallstatt/hallstatt/InvalidValueException" "java/lang/Throwable" "detailMessage" "Ljava/lang/String;").before a0 Z = true := hw _ (List.mem_of_getElem? (i := 98) rfl)
theorem wd_99 {a0 : Array Value} {Z : State} (hw : ∀ d ∈ tables_1, d.before a0 Z = true) : (Jvm.Cond.lays "com/example/hallstatt/hallstatt/InvalidValueException" "java/lang/Throwable" "backtrace" "Ljava/lang/Object;").before a0 Z = true := hw _ (List.mem_of_getElem? (i := 99) rfl)
theorem wd_100 {a0 : Array Value} {Z : State} (hw : ∀ d ∈ tables_1, d.before a0 Z = true) : (Jvm.Cond.lays "com/example/hallstatt/hallstatt/InvalidValueException" "java/lang/Throwable" "depth" "I").before a0 Z = true := hw _ (List.mem_of_getElem? (i := 100) rfl)
theorem wd_102 {a0 : Array Value} {Z : State} (hw : ∀ d ∈ tables_1, d.before a0 Z = true) : (Jvm.Cond.fieldLink "java/lang/Throwable" (31 : Nat) "java/lang/Throwable" "detailMessage" "Ljava/lang/String;").before a0 Z = true := hw _ (List.mem_of_getElem? (i := 102) rfl)
theorem wd_103 {a0 : Array Value} {Z : State} (hw : ∀ d ∈ tables_1, d.before a0 Z = true) : (Jvm.Cond.methodLink "com/example/hallstatt/hallstatt/InvalidValueExceptionWithinPinLaw" (18 : Nat) ({ cls := "com/example/hallstatt/hallstatt/InvalidValueException", name := "within", desc := "(Ljava/lang/String;)Lcom/example/hallstatt/hallstatt/InvalidValueException;" } : Jvm.MethodName)).before a0 Z = true := hw _ (List.mem_of_getElem? (i := 103) rfl)
theorem wd_104 {a0 : Array Value} {Z : State} (hw : ∀ d ∈ tables_1, d.before a0 Z = true) : (Jvm.Cond.declares ({ cls := "com/example/hallstatt/hallstatt/InvalidValueException", name := "within", desc := "(Ljava/lang/String;)Lcom/example/hallstatt/hallstatt/InvalidValueException;" } : Jvm.MethodName)).before a0 Z = true := hw _ (List.mem_of_getElem? (i := 104) rfl)
theorem wd_105 {a0 : Array Value} {Z : State} (hw : ∀ d ∈ tables_1, d.before a0 Z = true) : (Jvm.Cond.instanceMethod ({ cls := "com/example/hallstatt/hallstatt/InvalidValueException", name := "within", desc := "(Ljava/lang/String;)Lcom/example/hallstatt/hallstatt/InvalidValueException;" } : Jvm.MethodName)).before a0 Z = true := hw _ (List.mem_of_getElem? (i := 105) rfl)
theorem wd_106 {a0 : Array Value} {Z : State} (hw : ∀ d ∈ tables_1, d.before a0 Z = true) : (Jvm.Cond.selects "com/example/hallstatt/hallstatt/InvalidValueException" ({ cls := "com/example/hallstatt/hallstatt/InvalidValueException", name := "within", desc := "(Ljava/lang/String;)Lcom/example/hallstatt/hallstatt/InvalidValueException;" } : Jvm.MethodName) ({ cls := "com/example/hallstatt/hallstatt/InvalidValueException", name := "within", desc := "(Ljava/lang/String;)Lcom/example/hallstatt/hallstatt/InvalidValueException;" } : Jvm.MethodName)).before a0 Z = true := hw _ (List.mem_of_getElem? (i := 106) rfl)
theorem wd_107 {a0 : Array Value} {Z : State} (hw : ∀ d ∈ tables_1, d.before a0 Z = true) : (Jvm.Cond.code ({ cls := "com/example/hallstatt/hallstatt/InvalidValueException", name := "within", desc := "(Ljava/lang/String;)Lcom/example/hallstatt/hallstatt/InvalidValueException;" } : Jvm.MethodName) prog_3_method_2_code (2 : Nat) (Option.some (Jvm.ClassFile.FieldType.object "com/example/hallstatt/hallstatt/InvalidValueException"))).before a0 Z = true := hw _ (List.mem_of_getElem? (i := 107) rfl)
theorem wd_108 {a0 : Array Value} {Z : State} (hw : ∀ d ∈ tables_1, d.before a0 Z = true) : (Jvm.Cond.classLink "com/example/hallstatt/hallstatt/InvalidValueException" (7 : Nat) "com/example/hallstatt/hallstatt/InvalidValueException").before a0 Z = true := hw _ (List.mem_of_getElem? (i := 108) rfl)
theorem wd_109 {a0 : Array Value} {Z : State} (hw : ∀ d ∈ tables_1, d.before a0 Z = true) : (Jvm.Cond.classLink "com/example/hallstatt/hallstatt/InvalidValueException" (9 : Nat) "java/lang/StringBuilder").before a0 Z = true := hw _ (List.mem_of_getElem? (i := 109) rfl)
theorem wd_110 {a0 : Array Value} {Z : State} (hw : ∀ d ∈ tables_1, d.before a0 Z = true) : (Jvm.Cond.instantiable "java/lang/StringBuilder" (4 : Nat)).before a0 Z = true := hw _ (List.mem_of_getElem? (i := 110) rfl)
theorem wd_111 {a0 : Array Value} {Z : State} (hw : ∀ d ∈ tables_1, d.before a0 Z = true) : (Jvm.Cond.initialized "java/lang/StringBuilder").before a0 Z = true := hw _ (List.mem_of_getElem? (i := 111) rfl)
theorem wd_112 {a0 : Array Value} {Z : State} (hw : ∀ d ∈ tables_1, d.before a0 Z = true) : (Jvm.Cond.methodLink "com/example/hallstatt/hallstatt/InvalidValueException" (11 : Nat) ({ cls := "java/lang/StringBuilder", name := "<init>", desc := "()V" } : Jvm.MethodName)).before a0 Z = true := hw _ (List.mem_of_getElem? (i := 112) rfl)
theorem wd_113 {a0 : Array Value} {Z : State} (hw : ∀ d ∈ tables_1, d.before a0 Z = true) : (Jvm.Cond.instanceMethod ({ cls := "java/lang/StringBuilder", name := "<init>", desc := "()V" } : Jvm.MethodName)).before a0 Z = true := hw _ (List.mem_of_getElem? (i := 113) rfl)
theorem wd_114 {a0 : Array Value} {Z : State} (hw : ∀ d ∈ tables_1, d.before a0 Z = true) : (Jvm.Cond.code ({ cls := "java/lang/StringBuilder", name := "<init>", desc := "()V" } : Jvm.MethodName) jdk_67_method_1_code (1 : Nat) (Option.none : Option Jvm.ClassFile.FieldType)).before a0 Z = true := hw _ (List.mem_of_getElem? (i := 114) rfl)
theorem wd_115 {a0 : Array Value} {Z : State} (hw : ∀ d ∈ tables_1, d.before a0 Z = true) : (Jvm.Cond.methodLink "java/lang/StringBuilder" (1 : Nat) ({ cls := "java/lang/AbstractStringBuilder", name := "<init>", desc := "(I)V" } : Jvm.MethodName)).before a0 Z = true := hw _ (List.mem_of_getElem? (i := 115) rfl)
theorem wd_116 {a0 : Array Value} {Z : State} (hw : ∀ d ∈ tables_1, d.before a0 Z = true) : (Jvm.Cond.instanceMethod ({ cls := "java/lang/AbstractStringBuilder", name := "<init>", desc := "(I)V" } : Jvm.MethodName)).before a0 Z = true := hw _ (List.mem_of_getElem? (i := 116) rfl)
theorem wd_119 {a0 : Array Value} {Z : State} (hw : ∀ d ∈ tables_1, d.before a0 Z = true) : (Jvm.Cond.initialized "java/lang/AbstractStringBuilder").before a0 Z = true := hw _ (List.mem_of_getElem? (i := 119) rfl)
theorem wd_120 {a0 : Array Value} {Z : State} (hw : ∀ d ∈ tables_1, d.before a0 Z = true) : (Jvm.Cond.code ({ cls := "java/lang/AbstractStringBuilder", name := "<init>", desc := "(I)V" } : Jvm.MethodName) jdk_68_method_2_code (2 : Nat) (Option.none : Option Jvm.ClassFile.FieldType)).before a0 Z = true := hw _ (List.mem_of_getElem? (i := 120) rfl)
theorem wd_121 {a0 : Array Value} {Z : State} (hw : ∀ d ∈ tables_1, d.before a0 Z = true) : (Jvm.Cond.methodLink "java/lang/AbstractStringBuilder" (3 : Nat) ({ cls := "java/lang/Object", name := "<init>", desc := "()V" } : Jvm.MethodName)).before a0 Z = true := hw _ (List.mem_of_getElem? (i := 121) rfl)
theorem wd_122 {a0 : Array Value} {Z : State} (hw : ∀ d ∈ tables_1, d.before a0 Z = true) : (Jvm.Cond.fieldLink "java/lang/AbstractStringBuilder" (18 : Nat) "java/lang/String" "COMPACT_STRINGS" "Z").before a0 Z = true := hw _ (List.mem_of_getElem? (i := 122) rfl)
theorem wd_123 {a0 : Array Value} {Z : State} (hw : ∀ d ∈ tables_1, d.before a0 Z = true) : (Jvm.Cond.fieldLink "java/lang/AbstractStringBuilder" (15 : Nat) "java/lang/AbstractStringBuilder" "value" "[B").before a0 Z = true := hw _ (List.mem_of_getElem? (i := 123) rfl)
theorem wd_124 {a0 : Array Value} {Z : State} (hw : ∀ d ∈ tables_1, d.before a0 Z = true) : (Jvm.Cond.lays "java/lang/StringBuilder" "java/lang/AbstractStringBuilder" "value" "[B").before a0 Z = true := hw _ (List.mem_of_getElem? (i := 124) rfl)
theorem wd_125 {a0 : Array Value} {Z : State} (hw : ∀ d ∈ tables_1, d.before a0 Z = true) : (Jvm.Cond.fieldLink "java/lang/AbstractStringBuilder" (22 : Nat) "java/lang/AbstractStringBuilder" "coder" "B").before a0 Z = true := hw _ (List.mem_of_getElem? (i := 125) rfl)
theorem wd_126 {a0 : Array Value} {Z : State} (hw : ∀ d ∈ tables_1, d.before a0 Z = true) : (Jvm.Cond.lays "java/lang/StringBuilder" "java/lang/AbstractStringBuilder" "coder" "B").before a0 Z = true := hw _ (List.mem_of_getElem? (i := 126) rfl)
theorem wd_127 {a0 : Array Value} {Z : State} (hw : ∀ d ∈ tables_1, d.before a0 Z = true) : (Jvm.Cond.methodLink "com/example/hallstatt/hallstatt/InvalidValueException" (14 : Nat) ({ cls := "java/lang/StringBuilder", name := "append", desc := "(Ljava/lang/String;)Ljava/lang/StringBuilder;" } : Jvm.MethodName)).before a0 Z = true := hw _ (List.mem_of_getElem? (i := 127) rfl)
theorem wd_128 {a0 : Array Value} {Z : State} (hw : ∀ d ∈ tables_1, d.before a0 Z = true) : (Jvm.Cond.declares ({ cls := "java/lang/StringBuilder", name := "append", desc := "(Ljava/lang/String;)Ljava/lang/StringBuilder;" } : Jvm.MethodName)).before a0 Z = true := hw _ (List.mem_of_getElem? (i := 128) rfl)
theorem wd_129 {a0 : Array Value} {Z : State} (hw : ∀ d ∈ tables_1, d.before a0 Z = true) : (Jvm.Cond.instanceMethod ({ cls := "java/lang/StringBuilder", name := "append", desc := "(Ljava/lang/String;)Ljava/lang/StringBuilder;" } : Jvm.MethodName)).before a0 Z = true := hw _ (List.mem_of_getElem? (i := 129) rfl)
theorem wd_130 {a0 : Array Value} {Z : State} (hw : ∀ d ∈ tables_1, d.before a0 Z = true) : (Jvm.Cond.selects "java/lang/StringBuilder" ({ cls := "java/lang/StringBuilder", name := "append", desc := "(Ljava/lang/String;)Ljava/lang/StringBuilder;" } : Jvm.MethodName) ({ cls := "java/lang/StringBuilder", name := "append", desc := "(Ljava/lang/String;)Ljava/lang/StringBuilder;" } : Jvm.MethodName)).before a0 Z = true := hw _ (List.mem_of_getElem? (i := 130) rfl)
theorem wd_131 {a0 : Array Value} {Z : State} (hw : ∀ d ∈ tables_1, d.before a0 Z = true) : (Jvm.Cond.code ({ cls := "java/lang/StringBuilder", name := "append", desc := "(Ljava/lang/String;)Ljava/lang/StringBuilder;" } : Jvm.MethodName) jdk_67_method_7_code (2 : Nat) (Option.some (Jvm.ClassFile.FieldType.object "java/lang/StringBuilder"))).before a0 Z = true := hw _ (List.mem_of_getElem? (i := 131) rfl)
theorem wd_132 {a0 : Array Value} {Z : State} (hw : ∀ d ∈ tables_1, d.before a0 Z = true) : (Jvm.Cond.methodLink "java/lang/StringBuilder" (29 : Nat) ({ cls := "java/lang/AbstractStringBuilder", name := "append", desc := "(Ljava/lang/String;)Ljava/lang/AbstractStringBuilder;" } : Jvm.MethodName)).before a0 Z = true := hw _ (List.mem_of_getElem? (i := 132) rfl)
theorem wd_133 {a0 : Array Value} {Z : State} (hw : ∀ d ∈ tables_1, d.before a0 Z = true) : (Jvm.Cond.instanceMethod ({ cls := "java/lang/AbstractStringBuilder", name := "append", desc := "(Ljava/lang/String;)Ljava/lang/AbstractStringBuilder;" } : Jvm.MethodName)).before a0 Z = true := hw _ (List.mem_of_getElem? (i := 133) rfl)
theorem wd_134 {a0 : Array Value} {Z : State} (hw : ∀ d ∈ tables_1, d.before a0 Z = true) : (Jvm.Cond.superclass "java/lang/StringBuilder" "java/lang/AbstractStringBuilder").before a0 Z = true := hw _ (List.mem_of_getElem? (i := 134) rfl)
theorem wd_136 {a0 : Array Value} {Z : State} (hw : ∀ d ∈ tables_1, d.before a0 Z = true) : (Jvm.Cond.code ({ cls := "java/lang/AbstractStringBuilder", name := "append", desc := "(Ljava/lang/String;)Ljava/lang/AbstractStringBuilder;" } : Jvm.MethodName) jdk_68_method_22_code (3 : Nat) (Option.some (Jvm.ClassFile.FieldType.object "java/lang/AbstractStringBuilder"))).before a0 Z = true := hw _ (List.mem_of_getElem? (i := 136) rfl)
theorem wd_137 {a0 : Array Value} {Z : State} (hw : ∀ d ∈ tables_1, d.before a0 Z = true) : (Jvm.Cond.methodLink "java/lang/AbstractStringBuilder" (32 : Nat) ({ cls := "java/lang/String", name := "length", desc := "()I" } : Jvm.MethodName)).before a0 Z = true := hw _ (List.mem_of_getElem? (i := 137) rfl)
theorem wd_138 {a0 : Array Value} {Z : State} (hw : ∀ d ∈ tables_1, d.before a0 Z = true) : (Jvm.Cond.declares ({ cls := "java/lang/String", name := "length", desc := "()I" } : Jvm.MethodName)).before a0 Z = true := hw _ (List.mem_of_getElem? (i := 138) rfl)
theorem wd_139 {a0 : Array Value} {Z : State} (hw : ∀ d ∈ tables_1, d.before a0 Z = true) : (Jvm.Cond.instanceMethod ({ cls := "java/lang/String", name := "length", desc := "()I" } : Jvm.MethodName)).before a0 Z = true := hw _ (List.mem_of_getElem? (i := 139) rfl)
theorem wd_140 {a0 : Array Value} {Z : State} (hw : ∀ d ∈ tables_1, d.before a0 Z = true) : (Jvm.Cond.selects "java/lang/String" ({ cls := "java/lang/String", name := "length", desc := "()I" } : Jvm.MethodName) ({ cls := "java/lang/String", name := "length", desc := "()I" } : Jvm.MethodName)).before a0 Z = true := hw _ (List.mem_of_getElem? (i := 140) rfl)
theorem wd_142 {a0 : Array Value} {Z : State} (hw : ∀ d ∈ tables_1, d.before a0 Z = true) : (Jvm.Cond.methodLink "java/lang/String" (335 : Nat) ({ cls := "java/lang/String", name := "coder", desc := "()B" } : Jvm.MethodName)).before a0 Z = true := hw _ (List.mem_of_getElem? (i := 142) rfl)
theorem wd_143 {a0 : Array Value} {Z : State} (hw : ∀ d ∈ tables_1, d.before a0 Z = true) : (Jvm.Cond.declares ({ cls := "java/lang/String", name := "coder", desc := "()B" } : Jvm.MethodName)).before a0 Z = true := hw _ (List.mem_of_getElem? (i := 143) rfl)
theorem wd_144 {a0 : Array Value} {Z : State} (hw : ∀ d ∈ tables_1, d.before a0 Z = true) : (Jvm.Cond.instanceMethod ({ cls := "java/lang/String", name := "coder", desc := "()B" } : Jvm.MethodName)).before a0 Z = true := hw _ (List.mem_of_getElem? (i := 144) rfl)
theorem wd_145 {a0 : Array Value} {Z : State} (hw : ∀ d ∈ tables_1, d.before a0 Z = true) : (Jvm.Cond.selects "java/lang/String" ({ cls := "java/lang/String", name := "coder", desc := "()B" } : Jvm.MethodName) ({ cls := "java/lang/String", name := "coder", desc := "()B" } : Jvm.MethodName)).before a0 Z = true := hw _ (List.mem_of_getElem? (i := 145) rfl)
theorem wd_146 {a0 : Array Value} {Z : State} (hw : ∀ d ∈ tables_1, d.before a0 Z = true) : (Jvm.Cond.code ({ cls := "java/lang/String", name := "coder", desc := "()B" } : Jvm.MethodName) jdk_42_method_152_code (1 : Nat) (Option.some Jvm.ClassFile.FieldType.byte)).before a0 Z = true := hw _ (List.mem_of_getElem? (i := 146) rfl)
theorem wd_147 {a0 : Array Value} {Z : State} (hw : ∀ d ∈ tables_1, d.before a0 Z = true) : (Jvm.Cond.fieldLink "java/lang/AbstractStringBuilder" (79 : Nat) "java/lang/AbstractStringBuilder" "count" "I").before a0 Z = true := hw _ (List.mem_of_getElem? (i := 147) rfl)
theorem wd_148 {a0 : Array Value} {Z : State} (hw : ∀ d ∈ tables_1, d.before a0 Z = true) : (Jvm.Cond.lays "java/lang/StringBuilder" "java/lang/AbstractStringBuilder" "count" "I").before a0 Z = true := hw _ (List.mem_of_getElem? (i := 148) rfl)
theorem wd_149 {a0 : Array Value} {Z : State} (hw : ∀ d ∈ tables_1, d.before a0 Z = true) : (Jvm.Cond.methodLink "java/lang/AbstractStringBuilder" (100 : Nat) ({ cls := "java/lang/AbstractStringBuilder", name := "ensureCapacityInternal", desc := "(I)V" } : Jvm.MethodName)).before a0 Z = true := hw _ (List.mem_of_getElem? (i := 149) rfl)
theorem wd_150 {a0 : Array Value} {Z : State} (hw : ∀ d ∈ tables_1, d.before a0 Z = true) : (Jvm.Cond.instanceMethod ({ cls := "java/lang/AbstractStringBuilder", name := "ensureCapacityInternal", desc := "(I)V" } : Jvm.MethodName)).before a0 Z = true := hw _ (List.mem_of_getElem? (i := 150) rfl)
theorem wd_151 {a0 : Array Value} {Z : State} (hw : ∀ d ∈ tables_1, d.before a0 Z = true) : (Jvm.Cond.privateMethod ({ cls := "java/lang/AbstractStringBuilder", name := "ensureCapacityInternal", desc := "(I)V" } : Jvm.MethodName)).before a0 Z = true := hw _ (List.mem_of_getElem? (i := 151) rfl)
theorem wd_152 {a0 : Array Value} {Z : State} (hw : ∀ d ∈ tables_1, d.before a0 Z = true) : (Jvm.Cond.selects "java/lang/StringBuilder" ({ cls := "java/lang/AbstractStringBuilder", name := "ensureCapacityInternal", desc := "(I)V" } : Jvm.MethodName) ({ cls := "java/lang/AbstractStringBuilder", name := "ensureCapacityInternal", desc := "(I)V" } : Jvm.MethodName)).before a0 Z = true := hw _ (List.mem_of_getElem? (i := 152) rfl)
theorem wd_153 {a0 : Array Value} {Z : State} (hw : ∀ d ∈ tables_1, d.before a0 Z = true) : (Jvm.Cond.code ({ cls := "java/lang/AbstractStringBuilder", name := "ensureCapacityInternal", desc := "(I)V" } : Jvm.MethodName) jdk_68_method_9_code (3 : Nat) (Option.none : Option Jvm.ClassFile.FieldType)).before a0 Z = true := hw _ (List.mem_of_getElem? (i := 153) rfl)
theorem wd_154 {a0 : Array Value} {Z : State} (hw : ∀ d ∈ tables_1, d.before a0 Z = true) : (Jvm.Cond.methodLink "java/lang/AbstractStringBuilder" (208 : Nat) ({ cls := "java/lang/AbstractStringBuilder", name := "putStringAt", desc := "(ILjava/lang/String;)V" } : Jvm.MethodName)).before a0 Z = true := hw _ (List.mem_of_getElem? (i := 154) rfl)
theorem wd_155 {a0 : Array Value} {Z : State} (hw : ∀ d ∈ tables_1, d.before a0 Z = true) : (Jvm.Cond.instanceMethod ({ cls := "java/lang/AbstractStringBuilder", name := "putStringAt", desc := "(ILjava/lang/String;)V" } : Jvm.MethodName)).before a0 Z = true := hw _ (List.mem_of_getElem? (i := 155) rfl)
theorem wd_156 {a0 : Array Value} {Z : State} (hw : ∀ d ∈ tables_1, d.before a0 Z = true) : (Jvm.Cond.privateMethod ({ cls := "java/lang/AbstractStringBuilder", name := "putStringAt", desc := "(ILjava/lang/String;)V" } : Jvm.MethodName)).before a0 Z = true := hw _ (List.mem_of_getElem? (i := 156) rfl)
theorem wd_157 {a0 : Array Value} {Z : State} (hw : ∀ d ∈ tables_1, d.before a0 Z = true) : (Jvm.Cond.selects "java/lang/StringBuilder" ({ cls := "java/lang/AbstractStringBuilder", name := "putStringAt", desc := "(ILjava/lang/String;)V" } : Jvm.MethodName) ({ cls := "java/lang/AbstractStringBuilder", name := "putStringAt", desc := "(ILjava/lang/String;)V" } : Jvm.MethodName)).before a0 Z = true := hw _ (List.mem_of_getElem? (i := 157) rfl)
theorem wd_158 {a0 : Array Value} {Z : State} (hw : ∀ d ∈ tables_1, d.before a0 Z = true) : (Jvm.Cond.code ({ cls := "java/lang/AbstractStringBuilder", name := "putStringAt", desc := "(ILjava/lang/String;)V" } : Jvm.MethodName) jdk_68_method_73_code (3 : Nat) (Option.none : Option Jvm.ClassFile.FieldType)).before a0 Z = true := hw _ (List.mem_of_getElem? (i := 158) rfl)
theorem wd_159 {a0 : Array Value} {Z : State} (hw : ∀ d ∈ tables_1, d.before a0 Z = true) : (Jvm.Cond.methodLink "java/lang/AbstractStringBuilder" (397 : Nat) ({ cls := "java/lang/AbstractStringBuilder", name := "inflateIfNeededFor", desc := "(Ljava/lang/String;)V" } : Jvm.MethodName)).before a0 Z = true := hw _ (List.mem_of_getElem? (i := 159) rfl)
theorem wd_160 {a0 : Array Value} {Z : State} (hw : ∀ d ∈ tables_1, d.before a0 Z = true) : (Jvm.Cond.instanceMethod ({ cls := "java/lang/AbstractStringBuilder", name := "inflateIfNeededFor", desc := "(Ljava/lang/String;)V" } : Jvm.MethodName)).before a0 Z = true := hw _ (List.mem_of_getElem? (i := 160) rfl)
theorem wd_161 {a0 : Array Value} {Z : State} (hw : ∀ d ∈ tables_1, d.before a0 Z = true) : (Jvm.Cond.privateMethod ({ cls := "java/lang/AbstractStringBuilder", name := "inflateIfNeededFor", desc := "(Ljava/lang/String;)V" } : Jvm.MethodName)).before a0 Z = true := hw _ (List.mem_of_getElem? (i := 161) rfl)
theorem wd_162 {a0 : Array Value} {Z : State} (hw : ∀ d ∈ tables_1, d.before a0 Z = true) : (Jvm.Cond.selects "java/lang/StringBuilder" ({ cls := "java/lang/AbstractStringBuilder", name := "inflateIfNeededFor", desc := "(Ljava/lang/String;)V" } : Jvm.MethodName) ({ cls := "java/lang/AbstractStringBuilder", name := "inflateIfNeededFor", desc := "(Ljava/lang/String;)V" } : Jvm.MethodName)).before a0 Z = true := hw _ (List.mem_of_getElem? (i := 162) rfl)
theorem wd_163 {a0 : Array Value} {Z : State} (hw : ∀ d ∈ tables_1, d.before a0 Z = true) : (Jvm.Cond.code ({ cls := "java/lang/AbstractStringBuilder", name := "inflateIfNeededFor", desc := "(Ljava/lang/String;)V" } : Jvm.MethodName) jdk_68_method_71_code (2 : Nat) (Option.none : Option Jvm.ClassFile.FieldType)).before a0 Z = true := hw _ (List.mem_of_getElem? (i := 163) rfl)
theorem wd_164 {a0 : Array Value} {Z : State} (hw : ∀ d ∈ tables_1, d.before a0 Z = true) : (Jvm.Cond.methodLink "java/lang/AbstractStringBuilder" (40 : Nat) ({ cls := "java/lang/String", name := "coder", desc := "()B" } : Jvm.MethodName)).before a0 Z = true := hw _ (List.mem_of_getElem? (i := 164) rfl)
theorem wd_165 {a0 : Array Value} {Z : State} (hw : ∀ d ∈ tables_1, d.before a0 Z = true) : (Jvm.Cond.methodLink "java/lang/AbstractStringBuilder" (399 : Nat) ({ cls := "java/lang/String", name := "getBytes", desc := "([BIB)V" } : Jvm.MethodName)).before a0 Z = true := hw _ (List.mem_of_getElem? (i := 165) rfl)
theorem wd_166 {a0 : Array Value} {Z : State} (hw : ∀ d ∈ tables_1, d.before a0 Z = true) : (Jvm.Cond.declares ({ cls := "java/lang/String", name := "getBytes", desc := "([BIB)V" } : Jvm.MethodName)).before a0 Z = true := hw _ (List.mem_of_getElem? (i := 166) rfl)
theorem wd_167 {a0 : Array Value} {Z : State} (hw : ∀ d ∈ tables_1, d.before a0 Z = true) : (Jvm.Cond.instanceMethod ({ cls := "java/lang/String", name := "getBytes", desc := "([BIB)V" } : Jvm.MethodName)).before a0 Z = true := hw _ (List.mem_of_getElem? (i := 167) rfl)
theorem wd_168 {a0 : Array Value} {Z : State} (hw : ∀ d ∈ tables_1, d.before a0 Z = true) : (Jvm.Cond.selects "java/lang/String" ({ cls := "java/lang/String", name := "getBytes", desc := "([BIB)V" } : Jvm.MethodName) ({ cls := "java/lang/String", name := "getBytes", desc := "([BIB)V" } : Jvm.MethodName)).before a0 Z = true := hw _ (List.mem_of_getElem? (i := 168) rfl)
theorem wd_169 {a0 : Array Value} {Z : State} (hw : ∀ d ∈ tables_1, d.before a0 Z = true) : (Jvm.Cond.code ({ cls := "java/lang/String", name := "getBytes", desc := "([BIB)V" } : Jvm.MethodName) jdk_42_method_147_code (4 : Nat) (Option.none : Option Jvm.ClassFile.FieldType)).before a0 Z = true := hw _ (List.mem_of_getElem? (i := 169) rfl)
theorem wd_170 {a0 : Array Value} {Z : State} (hw : ∀ d ∈ tables_1, d.before a0 Z = true) : (Jvm.Cond.methodLink "java/lang/String" (212 : Nat) ({ cls := "java/lang/System", name := "arraycopy", desc := "(Ljava/lang/Object;ILjava/lang/Object;II)V" } : Jvm.MethodName)).before a0 Z = true := hw _ (List.mem_of_getElem? (i := 170) rfl)
theorem wd_171 {a0 : Array Value} {Z : State} (hw : ∀ d ∈ tables_1, d.before a0 Z = true) : (Jvm.Cond.static ({ cls := "java/lang/System", name := "arraycopy", desc := "(Ljava/lang/Object;ILjava/lang/Object;II)V" } : Jvm.MethodName)).before a0 Z = true := hw _ (List.mem_of_getElem? (i := 171) rfl)
theorem wd_172 {a0 : Array Value} {Z : State} (hw : ∀ d ∈ tables_1, d.before a0 Z = true) : (Jvm.Cond.initialized "java/lang/System").before a0 Z = true := hw _ (List.mem_of_getElem? (i := 172) rfl)
theorem wd_173 {a0 : Array Value} {Z : State} (hw : ∀ d ∈ tables_1, d.before a0 Z = true) : (Jvm.Cond.native ({ cls := "java/lang/System", name := "arraycopy", desc := "(Ljava/lang/Object;ILjava/lang/Object;II)V" } : Jvm.MethodName)).before a0 Z = true := hw _ (List.mem_of_getElem? (i := 173) rfl)
theorem wd_174 {a0 : Array Value} {Z : State} (hw : ∀ d ∈ tables_1, d.before a0 Z = true) : (Jvm.Cond.stringLink "com/example/hallstatt/hallstatt/InvalidValueException" (18 : Nat) ".").before a0 Z = true := hw _ (List.mem_of_getElem? (i := 174) rfl)
theorem wd_175 {a0 : Array Value} {Z : State} (hw : ∀ d ∈ tables_1, d.before a0 Z = true) : (Jvm.Cond.methodLink "com/example/hallstatt/hallstatt/InvalidValueException" (20 : Nat) ({ cls := "com/example/hallstatt/hallstatt/InvalidValueException", name := "getMessage", desc := "()Ljava/lang/String;" } : Jvm.MethodName)).before a0 Z = true := hw _ (List.mem_of_getElem? (i := 175) rfl)
theorem wd_176 {a0 : Array Value} {Z : State} (hw : ∀ d ∈ tables_1, d.before a0 Z = true) : (Jvm.Cond.sameMethod "com/example/hallstatt/hallstatt/InvalidValueException" "java/lang/Throwable" "getMessage" "()Ljava/lang/String;").before a0 Z = true := hw _ (List.mem_of_getElem? (i := 176) rfl)
theorem wd_177 {a0 : Array Value} {Z : State} (hw : ∀ d ∈ tables_1, d.before a0 Z = true) : (Jvm.Cond.declares ({ cls := "java/lang/Throwable", name := "getMessage", desc := "()Ljava/lang/String;" } : Jvm.MethodName)).before a0 Z = true := hw _ (List.mem_of_getElem? (i := 177) rfl)
theorem wd_178 {a0 : Array Value} {Z : State} (hw : ∀ d ∈ tables_1, d.before a0 Z = true) : (Jvm.Cond.instanceMethod ({ cls := "java/lang/Throwable", name := "getMessage", desc := "()Ljava/lang/String;" } : Jvm.MethodName)).before a0 Z = true := hw _ (List.mem_of_getElem? (i := 178) rfl)
theorem wd_179 {a0 : Array Value} {Z : State} (hw : ∀ d ∈ tables_1, d.before a0 Z = true) : (Jvm.Cond.selects "com/example/hallstatt/hallstatt/InvalidValueException" ({ cls := "com/example/hallstatt/hallstatt/InvalidValueException", name := "getMessage", desc := "()Ljava/lang/String;" } : Jvm.MethodName) ({ cls := "java/lang/Throwable", name := "getMessage", desc := "()Ljava/lang/String;" } : Jvm.MethodName)).before a0 Z = true := hw _ (List.mem_of_getElem? (i := 179) rfl)
theorem wd_180 {a0 : Array Value} {Z : State} (hw : ∀ d ∈ tables_1, d.before a0 Z = true) : (Jvm.Cond.code ({ cls := "java/lang/Throwable", name := "getMessage", desc := "()Ljava/lang/String;" } : Jvm.MethodName) jdk_78_method_6_code (1 : Nat) (Option.some (Jvm.ClassFile.FieldType.object "java/lang/String"))).before a0 Z = true := hw _ (List.mem_of_getElem? (i := 180) rfl)
theorem wd_181 {a0 : Array Value} {Z : State} (hw : ∀ d ∈ tables_1, d.before a0 Z = true) : (Jvm.Cond.methodLink "com/example/hallstatt/hallstatt/InvalidValueException" (24 : Nat) ({ cls := "java/lang/StringBuilder", name := "toString", desc := "()Ljava/lang/String;" } : Jvm.MethodName)).before a0 Z = true := hw _ (List.mem_of_getElem? (i := 181) rfl)
theorem wd_182 {a0 : Array Value} {Z : State} (hw : ∀ d ∈ tables_1, d.before a0 Z = true) : (Jvm.Cond.declares ({ cls := "java/lang/StringBuilder", name := "toString", desc := "()Ljava/lang/String;" } : Jvm.MethodName)).before a0 Z = true := hw _ (List.mem_of_getElem? (i := 182) rfl)
theorem wd_183 {a0 : Array Value} {Z : State} (hw : ∀ d ∈ tables_1, d.before a0 Z = true) : (Jvm.Cond.instanceMethod ({ cls := "java/lang/StringBuilder", name := "toString", desc := "()Ljava/lang/String;" } : Jvm.MethodName)).before a0 Z = true := hw _ (List.mem_of_getElem? (i := 183) rfl)
theorem wd_184 {a0 : Array Value} {Z : State} (hw : ∀ d ∈ tables_1, d.before a0 Z = true) : (Jvm.Cond.selects "java/lang/StringBuilder" ({ cls := "java/lang/StringBuilder", name := "toString", desc := "()Ljava/lang/String;" } : Jvm.MethodName) ({ cls := "java/lang/StringBuilder", name := "toString", desc := "()Ljava/lang/String;" } : Jvm.MethodName)).before a0 Z = true := hw _ (List.mem_of_getElem? (i := 184) rfl)
theorem wd_185 {a0 : Array Value} {Z : State} (hw : ∀ d ∈ tables_1, d.before a0 Z = true) : (Jvm.Cond.code ({ cls := "java/lang/StringBuilder", name := "toString", desc := "()Ljava/lang/String;" } : Jvm.MethodName) jdk_67_method_42_code (1 : Nat) (Option.some (Jvm.ClassFile.FieldType.object "java/lang/String"))).before a0 Z = true := hw _ (List.mem_of_getElem? (i := 185) rfl)
theorem wd_186 {a0 : Array Value} {Z : State} (hw : ∀ d ∈ tables_1, d.before a0 Z = true) : (Jvm.Cond.classLink "java/lang/StringBuilder" (18 : Nat) "java/lang/String").before a0 Z = true := hw _ (List.mem_of_getElem? (i := 186) rfl)
theorem wd_187 {a0 : Array Value} {Z : State} (hw : ∀ d ∈ tables_1, d.before a0 Z = true) : (Jvm.Cond.methodLink "java/lang/StringBuilder" (137 : Nat) ({ cls := "java/lang/String", name := "<init>", desc := "(Ljava/lang/StringBuilder;)V" } : Jvm.MethodName)).before a0 Z = true := hw _ (List.mem_of_getElem? (i := 187) rfl)
theorem wd_188 {a0 : Array Value} {Z : State} (hw : ∀ d ∈ tables_1, d.before a0 Z = true) : (Jvm.Cond.instanceMethod ({ cls := "java/lang/String", name := "<init>", desc := "(Ljava/lang/StringBuilder;)V" } : Jvm.MethodName)).before a0 Z = true := hw _ (List.mem_of_getElem? (i := 188) rfl)
theorem wd_189 {a0 : Array Value} {Z : State} (hw : ∀ d ∈ tables_1, d.before a0 Z = true) : (Jvm.Cond.code ({ cls := "java/lang/String", name := "<init>", desc := "(Ljava/lang/StringBuilder;)V" } : Jvm.MethodName) jdk_42_method_53_code (2 : Nat) (Option.none : Option Jvm.ClassFile.FieldType)).before a0 Z = true := hw _ (List.mem_of_getElem? (i := 189) rfl)
theorem wd_190 {a0 : Array Value} {Z : State} (hw : ∀ d ∈ tables_1, d.before a0 Z = true) : (Jvm.Cond.methodLink "java/lang/String" (489 : Nat) ({ cls := "java/lang/String", name := "<init>", desc := "(Ljava/lang/AbstractStringBuilder;Ljava/lang/Void;)V" } : Jvm.MethodName)).before a0 Z = true := hw _ (List.mem_of_getElem? (i := 190) rfl)
theorem wd_191 {a0 : Array Value} {Z : State} (hw : ∀ d ∈ tables_1, d.before a0 Z = true) : (Jvm.Cond.instanceMethod ({ cls := "java/lang/String", name := "<init>", desc := "(Ljava/lang/AbstractStringBuilder;Ljava/lang/Void;)V" } : Jvm.MethodName)).before a0 Z = true := hw _ (List.mem_of_getElem? (i := 191) rfl)
theorem wd_192 {a0 : Array Value} {Z : State} (hw : ∀ d ∈ tables_1, d.before a0 Z = true) : (Jvm.Cond.code ({ cls := "java/lang/String", name := "<init>", desc := "(Ljava/lang/AbstractStringBuilder;Ljava/lang/Void;)V" } : Jvm.MethodName) jdk_42_method_150_code (5 : Nat) (Option.none : Option Jvm.ClassFile.FieldType)).before a0 Z = true := hw _ (List.mem_of_getElem? (i := 192) rfl)
theorem wd_193 {a0 : Array Value} {Z : State} (hw : ∀ d ∈ tables_1, d.before a0 Z = true) : (Jvm.Cond.methodLink "java/lang/String" (552 : Nat) ({ cls := "java/lang/AbstractStringBuilder", name := "getValue", desc := "()[B" } : Jvm.MethodName)).before a0 Z = true := hw _ (List.mem_of_getElem? (i := 193) rfl)
theorem wd_194 {a0 : Array Value} {Z : State} (hw : ∀ d ∈ tables_1, d.before a0 Z = true) : (Jvm.Cond.declares ({ cls := "java/lang/AbstractStringBuilder", name := "getValue", desc := "()[B" } : Jvm.MethodName)).before a0 Z = true := hw _ (List.mem_of_getElem? (i := 194) rfl)
theorem wd_195 {a0 : Array Value} {Z : State} (hw : ∀ d ∈ tables_1, d.before a0 Z = true) : (Jvm.Cond.instanceMethod ({ cls := "java/lang/AbstractStringBuilder", name := "getValue", desc := "()[B" } : Jvm.MethodName)).before a0 Z = true := hw _ (List.mem_of_getElem? (i := 195) rfl)
theorem wd_196 {a0 : Array Value} {Z : State} (hw : ∀ d ∈ tables_1, d.before a0 Z = true) : (Jvm.Cond.selects "java/lang/StringBuilder" ({ cls := "java/lang/AbstractStringBuilder", name := "getValue", desc := "()[B" } : Jvm.MethodName) ({ cls := "java/lang/AbstractStringBuilder", name := "getValue", desc := "()[B" } : Jvm.MethodName)).before a0 Z = true := hw _ (List.mem_of_getElem? (i := 196) rfl)
theorem wd_197 {a0 : Array Value} {Z : State} (hw : ∀ d ∈ tables_1, d.before a0 Z = true) : (Jvm.Cond.code ({ cls := "java/lang/AbstractStringBuilder", name := "getValue", desc := "()[B" } : Jvm.MethodName) jdk_68_method_64_code (1 : Nat) (Option.some (Jvm.ClassFile.FieldType.array Jvm.ClassFile.FieldType.byte))).before a0 Z = true := hw _ (List.mem_of_getElem? (i := 197) rfl)
theorem wd_198 {a0 : Array Value} {Z : State} (hw : ∀ d ∈ tables_1, d.before a0 Z = true) : (Jvm.Cond.methodLink "java/lang/String" (549 : Nat) ({ cls := "java/lang/AbstractStringBuilder", name := "length", desc := "()I" } : Jvm.MethodName)).before a0 Z = true := hw _ (List.mem_of_getElem? (i := 198) rfl)
theorem wd_199 {a0 : Array Value} {Z : State} (hw : ∀ d ∈ tables_1, d.before a0 Z = true) : (Jvm.Cond.declares ({ cls := "java/lang/AbstractStringBuilder", name := "length", desc := "()I" } : Jvm.MethodName)).before a0 Z = true := hw _ (List.mem_of_getElem? (i := 199) rfl)
theorem wd_200 {a0 : Array Value} {Z : State} (hw : ∀ d ∈ tables_1, d.before a0 Z = true) : (Jvm.Cond.instanceMethod ({ cls := "java/lang/AbstractStringBuilder", name := "length", desc := "()I" } : Jvm.MethodName)).before a0 Z = true := hw _ (List.mem_of_getElem? (i := 200) rfl)
theorem wd_201 {a0 : Array Value} {Z : State} (hw : ∀ d ∈ tables_1, d.before a0 Z = true) : (Jvm.Cond.selects "java/lang/StringBuilder" ({ cls := "java/lang/AbstractStringBuilder", name := "length", desc := "()I" } : Jvm.MethodName) ({ cls := "java/lang/StringBuilder", name := "length", desc := "()I" } : Jvm.MethodName)).before a0 Z = true := hw _ (List.mem_of_getElem? (i := 201) rfl)
theorem wd_202 {a0 : Array Value} {Z : State} (hw : ∀ d ∈ tables_1, d.before a0 Z = true) : (Jvm.Cond.instanceMethod ({ cls := "java/lang/StringBuilder", name := "length", desc := "()I" } : Jvm.MethodName)).before a0 Z = true := hw _ (List.mem_of_getElem? (i := 202) rfl)
theorem wd_203 {a0 : Array Value} {Z : State} (hw : ∀ d ∈ tables_1, d.before a0 Z = true) : (Jvm.Cond.code ({ cls := "java/lang/StringBuilder", name := "length", desc := "()I" } : Jvm.MethodName) jdk_67_method_93_code (1 : Nat) (Option.some Jvm.ClassFile.FieldType.int)).before a0 Z = true := hw _ (List.mem_of_getElem? (i := 203) rfl)
theorem wd_204 {a0 : Array Value} {Z : State} (hw : ∀ d ∈ tables_1, d.before a0 Z = true) : (Jvm.Cond.methodLink "java/lang/StringBuilder" (343 : Nat) ({ cls := "java/lang/AbstractStringBuilder", name := "length", desc := "()I" } : Jvm.MethodName)).before a0 Z = true := hw _ (List.mem_of_getElem? (i := 204) rfl)
theorem wd_205 {a0 : Array Value} {Z : State} (hw : ∀ d ∈ tables_1, d.before a0 Z = true) : (Jvm.Cond.code ({ cls := "java/lang/AbstractStringBuilder", name := "length", desc := "()I" } : Jvm.MethodName) jdk_68_method_6_code (1 : Nat) (Option.some Jvm.ClassFile.FieldType.int)).before a0 Z = true := hw _ (List.mem_of_getElem? (i := 205) rfl)
theorem wd_206 {a0 : Array Value} {Z : State} (hw : ∀ d ∈ tables_1, d.before a0 Z = true) : (Jvm.Cond.methodLink "java/lang/String" (1047 : Nat) ({ cls := "java/lang/AbstractStringBuilder", name := "isLatin1", desc := "()Z" } : Jvm.MethodName)).before a0 Z = true := hw _ (List.mem_of_getElem? (i := 206) rfl)
theorem wd_207 {a0 : Array Value} {Z : State} (hw : ∀ d ∈ tables_1, d.before a0 Z = true) : (Jvm.Cond.declares ({ cls := "java/lang/AbstractStringBuilder", name := "isLatin1", desc := "()Z" } : Jvm.MethodName)).before a0 Z = true := hw _ (List.mem_of_getElem? (i := 207) rfl)
theorem wd_208 {a0 : Array Value} {Z : State} (hw : ∀ d ∈ tables_1, d.before a0 Z = true) : (Jvm.Cond.instanceMethod ({ cls := "java/lang/AbstractStringBuilder", name := "isLatin1", desc := "()Z" } : Jvm.MethodName)).before a0 Z = true := hw _ (List.mem_of_getElem? (i := 208) rfl)
theorem wd_209 {a0 : Array Value} {Z : State} (hw : ∀ d ∈ tables_1, d.before a0 Z = true) : (Jvm.Cond.selects "java/lang/StringBuilder" ({ cls := "java/lang/AbstractStringBuilder", name := "isLatin1", desc := "()Z" } : Jvm.MethodName) ({ cls := "java/lang/AbstractStringBuilder", name := "isLatin1", desc := "()Z" } : Jvm.MethodName)).before a0 Z = true := hw _ (List.mem_of_getElem? (i := 209) rfl)
theorem wd_210 {a0 : Array Value} {Z : State} (hw : ∀ d ∈ tables_1, d.before a0 Z = true) : (Jvm.Cond.code ({ cls := "java/lang/AbstractStringBuilder", name := "isLatin1", desc := "()Z" } : Jvm.MethodName) jdk_68_method_68_code (1 : Nat) (Option.some Jvm.ClassFile.FieldType.boolean)).before a0 Z = true := hw _ (List.mem_of_getElem? (i := 210) rfl)
theorem wd_211 {a0 : Array Value} {Z : State} (hw : ∀ d ∈ tables_1, d.before a0 Z = true) : (Jvm.Cond.methodLink "java/lang/String" (54 : Nat) ({ cls := "java/util/Arrays", name := "copyOfRange", desc := "([BII)[B" } : Jvm.MethodName)).before a0 Z = true := hw _ (List.mem_of_getElem? (i := 211) rfl)
theorem wd_212 {a0 : Array Value} {Z : State} (hw : ∀ d ∈ tables_1, d.before a0 Z = true) : (Jvm.Cond.static ({ cls := "java/util/Arrays", name := "copyOfRange", desc := "([BII)[B" } : Jvm.MethodName)).before a0 Z = true := hw _ (List.mem_of_getElem? (i := 212) rfl)
theorem wd_213 {a0 : Array Value} {Z : State} (hw : ∀ d ∈ tables_1, d.before a0 Z = true) : (Jvm.Cond.initialized "java/util/Arrays").before a0 Z = true := hw _ (List.mem_of_getElem? (i := 213) rfl)
theorem wd_214 {a0 : Array Value} {Z : State} (hw : ∀ d ∈ tables_1, d.before a0 Z = true) : (Jvm.Cond.code ({ cls := "java/util/Arrays", name := "copyOfRange", desc := "([BII)[B" } : Jvm.MethodName) jdk_65_method_132_code (3 : Nat) (Option.some (Jvm.ClassFile.FieldType.array Jvm.ClassFile.FieldType.byte))).before a0 Z = true := hw _ (List.mem_of_getElem? (i := 214) rfl)
theorem wd_215 {a0 : Array Value} {Z : State} (hw : ∀ d ∈ tables_1, d.before a0 Z = true) : (Jvm.Cond.methodLink "java/util/Arrays" (339 : Nat) ({ cls := "java/util/Arrays", name := "copyOfRangeByte", desc := "([BII)[B" } : Jvm.MethodName)).before a0 Z = true := hw _ (List.mem_of_getElem? (i := 215) rfl)
theorem wd_216 {a0 : Array Value} {Z : State} (hw : ∀ d ∈ tables_1, d.before a0 Z = true) : (Jvm.Cond.static ({ cls := "java/util/Arrays", name := "copyOfRangeByte", desc := "([BII)[B" } : Jvm.MethodName)).before a0 Z = true := hw _ (List.mem_of_getElem? (i := 216) rfl)
theorem wd_217 {a0 : Array Value} {Z : State} (hw : ∀ d ∈ tables_1, d.before a0 Z = true) : (Jvm.Cond.code ({ cls := "java/util/Arrays", name := "copyOfRangeByte", desc := "([BII)[B" } : Jvm.MethodName) jdk_65_method_133_code (5 : Nat) (Option.some (Jvm.ClassFile.FieldType.array Jvm.ClassFile.FieldType.byte))).before a0 Z = true := hw _ (List.mem_of_getElem? (i := 217) rfl)
theorem wd_218 {a0 : Array Value} {Z : State} (hw : ∀ d ∈ tables_1, d.before a0 Z = true) : (Jvm.Cond.methodLink "java/util/Arrays" (343 : Nat) ({ cls := "java/util/Arrays", name := "checkLength", desc := "(II)V" } : Jvm.MethodName)).before a0 Z = true := hw _ (List.mem_of_getElem? (i := 218) rfl)
theorem wd_219 {a0 : Array Value} {Z : State} (hw : ∀ d ∈ tables_1, d.before a0 Z = true) : (Jvm.Cond.static ({ cls := "java/util/Arrays", name := "checkLength", desc := "(II)V" } : Jvm.MethodName)).before a0 Z = true := hw _ (List.mem_of_getElem? (i := 219) rfl)
theorem wd_220 {a0 : Array Value} {Z : State} (hw : ∀ d ∈ tables_1, d.before a0 Z = true) : (Jvm.Cond.code ({ cls := "java/util/Arrays", name := "checkLength", desc := "(II)V" } : Jvm.MethodName) jdk_65_method_131_code (2 : Nat) (Option.none : Option Jvm.ClassFile.FieldType)).before a0 Z = true := hw _ (List.mem_of_getElem? (i := 220) rfl)
theorem wd_221 {a0 : Array Value} {Z : State} (hw : ∀ d ∈ tables_1, d.before a0 Z = true) : (Jvm.Cond.methodLink "java/util/Arrays" (304 : Nat) ({ cls := "java/lang/Math", name := "min", desc := "(II)I" } : Jvm.MethodName)).before a0 Z = true := hw _ (List.mem_of_getElem? (i := 221) rfl)
theorem wd_222 {a0 : Array Value} {Z : State} (hw : ∀ d ∈ tables_1, d.before a0 Z = true) : (Jvm.Cond.static ({ cls := "java/lang/Math", name := "min", desc := "(II)I" } : Jvm.MethodName)).before a0 Z = true := hw _ (List.mem_of_getElem? (i := 222) rfl)
theorem wd_223 {a0 : Array Value} {Z : State} (hw : ∀ d ∈ tables_1, d.before a0 Z = true) : (Jvm.Cond.initialized "java/lang/Math").before a0 Z = true := hw _ (List.mem_of_getElem? (i := 223) rfl)
theorem wd_224 {a0 : Array Value} {Z : State} (hw : ∀ d ∈ tables_1, d.before a0 Z = true) : (Jvm.Cond.code ({ cls := "java/lang/Math", name := "min", desc := "(II)I" } : Jvm.MethodName) jdk_29_method_69_code (2 : Nat) (Option.some Jvm.ClassFile.FieldType.int)).before a0 Z = true := hw _ (List.mem_of_getElem? (i := 224) rfl)
theorem wd_225 {a0 : Array Value} {Z : State} (hw : ∀ d ∈ tables_1, d.before a0 Z = true) : (Jvm.Cond.methodLink "java/util/Arrays" (150 : Nat) ({ cls := "java/lang/System", name := "arraycopy", desc := "(Ljava/lang/Object;ILjava/lang/Object;II)V" } : Jvm.MethodName)).before a0 Z = true := hw _ (List.mem_of_getElem? (i := 225) rfl)
theorem wd_226 {a0 : Array Value} {Z : State} (hw : ∀ d ∈ tables_1, d.before a0 Z = true) : (Jvm.Cond.methodLink "com/example/hallstatt/hallstatt/InvalidValueException" (27 : Nat) ({ cls := "com/example/hallstatt/hallstatt/InvalidValueException", name := "<init>", desc := "(Ljava/lang/String;)V" } : Jvm.MethodName)).before a0 Z = true := hw _ (List.mem_of_getElem? (i := 226) rfl)
theorem wd_227 {a0 : Array Value} {Z : State} (hw : ∀ d ∈ tables_1, d.before a0 Z = true) : (Jvm.Cond.methodLink "com/example/hallstatt/hallstatt/InvalidValueExceptionWithinPinLaw" (22 : Nat) ({ cls := "com/example/hallstatt/hallstatt/InvalidValueException", name := "getMessage", desc := "()Ljava/lang/String;" } : Jvm.MethodName)).before a0 Z = true := hw _ (List.mem_of_getElem? (i := 227) rfl)
theorem wd_228 {a0 : Array Value} {Z : State} (hw : ∀ d ∈ tables_1, d.before a0 Z = true) : (Jvm.Cond.methodLink "com/example/hallstatt/hallstatt/InvalidValueExceptionWithinPinLaw" (26 : Nat) ({ cls := "java/lang/String", name := "length", desc := "()I" } : Jvm.MethodName)).before a0 Z = true := hw _ (List.mem_of_getElem? (i := 228) rfl)
theorem wd_229 {a0 : Array Value} {Z : State} (hw : ∀ d ∈ tables_1, d.before a0 Z = true) : (Jvm.Cond.methodLink "com/example/hallstatt/hallstatt/InvalidValueExceptionWithinPinLaw" (32 : Nat) ({ cls := "com/example/hallstatt/hallstatt/InvalidValueExceptionWithinPinLaw", name := "at", desc := "(Ljava/lang/String;Ljava/lang/String;Ljava/lang/String;I)Z" } : Jvm.MethodName)).before a0 Z = true := hw _ (List.mem_of_getElem? (i := 229) rfl)
theorem wd_230 {a0 : Array Value} {Z : State} (hw : ∀ d ∈ tables_1, d.before a0 Z = true) : (Jvm.Cond.static ({ cls := "com/example/hallstatt/hallstatt/InvalidValueExceptionWithinPinLaw", name := "at", desc := "(Ljava/lang/String;Ljava/lang/String;Ljava/lang/String;I)Z" } : Jvm.MethodName)).before a0 Z = true := hw _ (List.mem_of_getElem? (i := 230) rfl)
theorem wd_231 {a0 : Array Value} {Z : State} (hw : ∀ d ∈ tables_1, d.before a0 Z = true) : (Jvm.Cond.code ({ cls := "com/example/hallstatt/hallstatt/InvalidValueExceptionWithinPinLaw", name := "at", desc := "(Ljava/lang/String;Ljava/lang/String;Ljava/lang/String;I)Z" } : Jvm.MethodName) method_4_code (5 : Nat) (Option.some Jvm.ClassFile.FieldType.boolean)).before a0 Z = true := hw _ (List.mem_of_getElem? (i := 231) rfl)
theorem wd_232 {a0 : Array Value} {Z : State} (hw : ∀ d ∈ tables_1, d.before a0 Z = true) : (Jvm.Cond.methodLink "com/example/hallstatt/hallstatt/InvalidValueExceptionWithinPinLaw" (47 : Nat) ({ cls := "java/lang/String", name := "charAt", desc := "(I)C" } : Jvm.MethodName)).before a0 Z = true := hw _ (List.mem_of_getElem? (i := 232) rfl)
theorem wd_233 {a0 : Array Value} {Z : State} (hw : ∀ d ∈ tables_1, d.before a0 Z = true) : (Jvm.Cond.declares ({ cls := "java/lang/String", name := "charAt", desc := "(I)C" } : Jvm.MethodName)).before a0 Z = true := hw _ (List.mem_of_getElem? (i := 233) rfl)
theorem wd_234 {a0 : Array Value} {Z : State} (hw : ∀ d ∈ tables_1, d.before a0 Z = true) : (Jvm.Cond.instanceMethod ({ cls := "java/lang/String", name := "charAt", desc := "(I)C" } : Jvm.MethodName)).before a0 Z = true := hw _ (List.mem_of_getElem? (i := 234) rfl)
theorem wd_235 {a0 : Array Value} {Z : State} (hw : ∀ d ∈ tables_1, d.before a0 Z = true) : (Jvm.Cond.selects "java/lang/String" ({ cls := "java/lang/String", name := "charAt", desc := "(I)C" } : Jvm.MethodName) ({ cls := "java/lang/String", name := "charAt", desc := "(I)C" } : Jvm.MethodName)).before a0 Z = true := hw _ (List.mem_of_getElem? (i := 235) rfl)
theorem wd_244 {a0 : Array Value} {Z : State} (hw : ∀ d ∈ tables_1, d.before a0 Z = true) : (Jvm.Cond.initialized "java/lang/StringLatin1").before a0 Z = true := hw _ (List.mem_of_getElem? (i := 244) rfl)
theorem wd_254 {a0 : Array Value} {Z : State} (hw : ∀ d ∈ tables_1, d.before a0 Z = true) : (Jvm.Cond.methodLink "com/example/hallstatt/hallstatt/InvalidValueExceptionWithinPinLaw" (36 : Nat) ({ cls := "java/lang/String", name := "equals", desc := "(Ljava/lang/Object;)Z" } : Jvm.MethodName)).before a0 Z = true := hw _ (List.mem_of_getElem? (i := 254) rfl)
theorem wd_255 {a0 : Array Value} {Z : State} (hw : ∀ d ∈ tables_1, d.before a0 Z = true) : (Jvm.Cond.declares ({ cls := "java/lang/String", name := "equals", desc := "(Ljava/lang/Object;)Z" } : Jvm.MethodName)).before a0 Z = true := hw _ (List.mem_of_getElem? (i := 255) rfl)
theorem wd_256 {a0 : Array Value} {Z : State} (hw : ∀ d ∈ tables_1, d.before a0 Z = true) : (Jvm.Cond.instanceMethod ({ cls := "java/lang/String", name := "equals", desc := "(Ljava/lang/Object;)Z" } : Jvm.MethodName)).before a0 Z = true := hw _ (List.mem_of_getElem? (i := 256) rfl)
theorem wd_257 {a0 : Array Value} {Z : State} (hw : ∀ d ∈ tables_1, d.before a0 Z = true) : (Jvm.Cond.selects "java/lang/String" ({ cls := "java/lang/String", name := "equals", desc := "(Ljava/lang/Object;)Z" } : Jvm.MethodName) ({ cls := "java/lang/String", name := "equals", desc := "(Ljava/lang/Object;)Z" } : Jvm.MethodName)).before a0 Z = true := hw _ (List.mem_of_getElem? (i := 257) rfl)
theorem wd_258 {a0 : Array Value} {Z : State} (hw : ∀ d ∈ tables_1, d.before a0 Z = true) : (Jvm.Cond.code ({ cls := "java/lang/String", name := "equals", desc := "(Ljava/lang/Object;)Z" } : Jvm.MethodName) jdk_42_method_66_code (3 : Nat) (Option.some Jvm.ClassFile.FieldType.boolean)).before a0 Z = true := hw _ (List.mem_of_getElem? (i := 258) rfl)
theorem wd_259 {a0 : Array Value} {Z : State} (hw : ∀ d ∈ tables_1, d.before a0 Z = true) : (Jvm.Cond.methodLink "com/example/hallstatt/hallstatt/InvalidValueExceptionWithinPinLaw" (43 : Nat) ({ cls := "java/lang/String", name := "valueOf", desc := "(C)Ljava/lang/String;" } : Jvm.MethodName)).before a0 Z = true := hw _ (List.mem_of_getElem? (i := 259) rfl)
theorem wd_260 {a0 : Array Value} {Z : State} (hw : ∀ d ∈ tables_1, d.before a0 Z = true) : (Jvm.Cond.static ({ cls := "java/lang/String", name := "valueOf", desc := "(C)Ljava/lang/String;" } : Jvm.MethodName)).before a0 Z = true := hw _ (List.mem_of_getElem? (i := 260) rfl)
theorem wd_261 {a0 : Array Value} {Z : State} (hw : ∀ d ∈ tables_1, d.before a0 Z = true) : (Jvm.Cond.code ({ cls := "java/lang/String", name := "valueOf", desc := "(C)Ljava/lang/String;" } : Jvm.MethodName) jdk_42_method_139_code (1 : Nat) (Option.some (Jvm.ClassFile.FieldType.object "java/lang/String"))).before a0 Z = true := hw _ (List.mem_of_getElem? (i := 261) rfl)
theorem wd_262 {a0 : Array Value} {Z : State} (hw : ∀ d ∈ tables_1, d.before a0 Z = true) : (Jvm.Cond.methodLink "java/lang/String" (1015 : Nat) ({ cls := "java/lang/StringLatin1", name := "canEncode", desc := "(C)Z" } : Jvm.MethodName)).before a0 Z = true := hw _ (List.mem_of_getElem? (i := 262) rfl)
theorem wd_263 {a0 : Array Value} {Z : State} (hw : ∀ d ∈ tables_1, d.before a0 Z = true) : (Jvm.Cond.static ({ cls := "java/lang/StringLatin1", name := "canEncode", desc := "(C)Z" } : Jvm.MethodName)).before a0 Z = true := hw _ (List.mem_of_getElem? (i := 263) rfl)
theorem wd_264 {a0 : Array Value} {Z : State} (hw : ∀ d ∈ tables_1, d.before a0 Z = true) : (Jvm.Cond.code ({ cls := "java/lang/StringLatin1", name := "canEncode", desc := "(C)Z" } : Jvm.MethodName) jdk_43_method_3_code (1 : Nat) (Option.some Jvm.ClassFile.FieldType.boolean)).before a0 Z = true := hw _ (List.mem_of_getElem? (i := 264) rfl)
theorem wd_265 {a0 : Array Value} {Z : State} (hw : ∀ d ∈ tables_1, d.before a0 Z = true) : (Jvm.Cond.classLink "java/lang/String" (10 : Nat) "java/lang/String").before a0 Z = true := hw _ (List.mem_of_getElem? (i := 265) rfl)
theorem wd_266 {a0 : Array Value} {Z : State} (hw : ∀ d ∈ tables_1, d.before a0 Z = true) : (Jvm.Cond.methodLink "java/lang/String" (1018 : Nat) ({ cls := "java/lang/StringLatin1", name := "toBytes", desc := "(C)[B" } : Jvm.MethodName)).before a0 Z = true := hw _ (List.mem_of_getElem? (i := 266) rfl)
theorem wd_267 {a0 : Array Value} {Z : State} (hw : ∀ d ∈ tables_1, d.before a0 Z = true) : (Jvm.Cond.static ({ cls := "java/lang/StringLatin1", name := "toBytes", desc := "(C)[B" } : Jvm.MethodName)).before a0 Z = true := hw _ (List.mem_of_getElem? (i := 267) rfl)
theorem wd_268 {a0 : Array Value} {Z : State} (hw : ∀ d ∈ tables_1, d.before a0 Z = true) : (Jvm.Cond.code ({ cls := "java/lang/StringLatin1", name := "toBytes", desc := "(C)[B" } : Jvm.MethodName) jdk_43_method_46_code (1 : Nat) (Option.some (Jvm.ClassFile.FieldType.array Jvm.ClassFile.FieldType.byte))).before a0 Z = true := hw _ (List.mem_of_getElem? (i := 268) rfl)
theorem wd_269 {a0 : Array Value} {Z : State} (hw : ∀ d ∈ tables_1, d.before a0 Z = true) : (Jvm.Cond.methodLink "java/lang/String" (209 : Nat) ({ cls := "java/lang/String", name := "<init>", desc := "([BB)V" } : Jvm.MethodName)).before a0 Z = true := hw _ (List.mem_of_getElem? (i := 269) rfl)
theorem wd_270 {a0 : Array Value} {Z : State} (hw : ∀ d ∈ tables_1, d.before a0 Z = true) : (Jvm.Cond.instanceMethod ({ cls := "java/lang/String", name := "<init>", desc := "([BB)V" } : Jvm.MethodName)).before a0 Z = true := hw _ (List.mem_of_getElem? (i := 270) rfl)
theorem wd_271 {a0 : Array Value} {Z : State} (hw : ∀ d ∈ tables_1, d.before a0 Z = true) : (Jvm.Cond.code ({ cls := "java/lang/String", name := "<init>", desc := "([BB)V" } : Jvm.MethodName) jdk_42_method_151_code (3 : Nat) (Option.none : Option Jvm.ClassFile.FieldType)).before a0 Z = true := hw _ (List.mem_of_getElem? (i := 271) rfl)
theorem pn_0 : plainName "java/lang/Throwable" = true := by first | (simp [plainName, overriddenIn]; done) | decide +kernel
theorem pn_1 : plainName "java/lang/Exception" = true := by first | (simp [plainName, overriddenIn]; done) | decide +kernel
theorem pn_2 : plainName "java/lang/RuntimeException" = true := by first | (simp [plainName, overriddenIn]; done) | decide +kernel
theorem pn_3 : plainName "java/lang/IllegalArgumentException" = true := by first | (simp [plainName, overriddenIn]; done) | decide +kernel
theorem pn_4 : plainName "com/example/hallstatt/hallstatt/InvalidValueException" = true := by first | (simp [plainName, overriddenIn]; done) | decide +kernel
theorem pn_5 : plainName "java/lang/AbstractStringBuilder" = true := by first | (simp [plainName, overriddenIn]; done) | decide +kernel
theorem pn_6 : plainName "java/lang/StringBuilder" = true := by first | (simp [plainName, overriddenIn]; done) | decide +kernel
theorem pn_7 : plainName "java/lang/String" = true := by first | (simp [plainName, overriddenIn]; done) | decide +kernel
theorem pn_8 : plainName "java/util/Arrays" = true := by first | (simp [plainName, overriddenIn]; done) | decide +kernel
theorem pn_9 : plainName "com/example/hallstatt/hallstatt/InvalidValueExceptionWithinPinLaw" = true := by first | (simp [plainName, overriddenIn]; done) | decide +kernel
theorem pn_10 : plainName "java/lang/StringLatin1" = true := by first | (simp [plainName, overriddenIn]; done) | decide +kernel
theorem pd_0 : parseMethodDescriptor "(Ljava/lang/String;)V" = some ⟨[(.object "java/lang/String")], none⟩ := by decide +kernel
theorem pd_1 : parseMethodDescriptor "(I)V" = some ⟨[.int], none⟩ := by decide +kernel
theorem pd_2 : parseMethodDescriptor "()B" = some ⟨[], some .byte⟩ := by decide +kernel
theorem pd_3 : parseMethodDescriptor "([BIB)V" = some ⟨[(.array .byte), .int, .byte], none⟩ := by decide +kernel
theorem pd_4 : parseMethodDescriptor "()I" = some ⟨[], some .int⟩ := by decide +kernel
theorem pd_5 : parseMethodDescriptor "(ILjava/lang/String;)V" = some ⟨[.int, (.object "java/lang/String")], none⟩ := by decide +kernel
theorem pd_6 : parseMethodDescriptor "(Ljava/lang/String;)Ljava/lang/AbstractStringBuilder;" = some ⟨[(.object "java/lang/String")], some (.object "java/lang/AbstractStringBuilder")⟩ := by decide +kernel
theorem pd_7 : parseMethodDescriptor "(II)V" = some ⟨[.int, .int], none⟩ := by decide +kernel
theorem pd_8 : parseMethodDescriptor "(II)I" = some ⟨[.int, .int], some .int⟩ := by decide +kernel
theorem pd_9 : parseMethodDescriptor "([BII)[B" = some ⟨[(.array .byte), .int, .int], some (.array .byte)⟩ := by decide +kernel
theorem pd_10 : parseMethodDescriptor "()[B" = some ⟨[], some (.array .byte)⟩ := by decide +kernel
theorem pd_11 : parseMethodDescriptor "()Z" = some ⟨[], some .boolean⟩ := by decide +kernel
theorem pd_12 : parseMethodDescriptor "(Ljava/lang/AbstractStringBuilder;Ljava/lang/Void;)V" = some ⟨[(.object "java/lang/AbstractStringBuilder"), (.object "java/lang/Void")], none⟩ := by decide +kernel
theorem pd_13 : parseMethodDescriptor "(Ljava/lang/StringBuilder;)V" = some ⟨[(.object "java/lang/StringBuilder")], none⟩ := by decide +kernel
theorem pd_14 : parseMethodDescriptor "()V" = some ⟨[], none⟩ := by decide +kernel
theorem pd_15 : parseMethodDescriptor "(Ljava/lang/String;)Ljava/lang/StringBuilder;" = some ⟨[(.object "java/lang/String")], some (.object "java/lang/StringBuilder")⟩ := by decide +kernel
theorem pd_16 : parseMethodDescriptor "()Ljava/lang/String;" = some ⟨[], some (.object "java/lang/String")⟩ := by decide +kernel
theorem pd_17 : parseMethodDescriptor "(I)C" = some ⟨[.int], some .char⟩ := by decide +kernel
theorem pd_18 : parseMethodDescriptor "([CIILjava/lang/Void;)V" = some ⟨[(.array .char), .int, .int, (.object "java/lang/Void")], none⟩ := by decide +kernel
theorem pd_19 : parseMethodDescriptor "(C)Z" = some ⟨[.char], some .boolean⟩ := by decide +kernel
theorem pd_20 : parseMethodDescriptor "(C)[B" = some ⟨[.char], some (.array .byte)⟩ := by decide +kernel
theorem pd_21 : parseMethodDescriptor "([BB)V" = some ⟨[(.array .byte), .byte], none⟩ := by decide +kernel
theorem pd_22 : parseMethodDescriptor "([C)V" = some ⟨[(.array .char)], none⟩ := by decide +kernel
theorem pd_23 : parseMethodDescriptor "(C)Ljava/lang/String;" = some ⟨[.char], some (.object "java/lang/String")⟩ := by decide +kernel
theorem pd_24 : parseMethodDescriptor "(III)Ljava/lang/String;" = some ⟨[.int, .int, .int], some (.object "java/lang/String")⟩ := by decide +kernel
theorem pd_25 : parseMethodDescriptor "(Ljava/lang/String;)Lcom/example/hallstatt/hallstatt/InvalidValueException;" = some ⟨[(.object "java/lang/String")], some (.object "com/example/hallstatt/hallstatt/InvalidValueException")⟩ := by decide +kernel
theorem pd_26 : parseMethodDescriptor "(Ljava/lang/String;Ljava/lang/String;Ljava/lang/String;I)Z" = some ⟨[(.object "java/lang/String"), (.object "java/lang/String"), (.object "java/lang/String"), .int], some .boolean⟩ := by decide +kernel
theorem pd_27 : parseMethodDescriptor "(Ljava/lang/Object;)Z" = some ⟨[(.object "java/lang/Object")], some .boolean⟩ := by decide +kernel
theorem pf_0 : parseFieldDescriptor "Ljava/lang/Throwable;" = some (.object "java/lang/Throwable") := by decide +kernel
theorem pf_1 : parseFieldDescriptor "[Ljava/lang/StackTraceElement;" = some (.array (.object "java/lang/StackTraceElement")) := by decide +kernel
theorem pf_2 : parseFieldDescriptor "Ljava/util/List;" = some (.object "java/util/List") := by decide +kernel
theorem pf_3 : parseFieldDescriptor "Ljava/lang/Object;" = some (.object "java/lang/Object") := by decide +kernel
theorem pf_4 : parseFieldDescriptor "Ljava/lang/String;" = some (.object "java/lang/String") := by decide +kernel
theorem pf_5 : parseFieldDescriptor "[B" = some (.array .byte) := by decide +kernel
theorem pf_6 : parseFieldDescriptor "B" = some .byte := by decide +kernel
theorem pf_7 : parseFieldDescriptor "I" = some .int := by decide +kernel
theorem sn_0 {a0 : Array Value} {Z : State} (hw : ∀ d ∈ tables_1, d.before a0 Z = true) : Jvm.RoadKit.slotOf Z "java/lang/Throwable" "stackTrace" "[Ljava/lang/StackTraceElement;" ≠ Jvm.RoadKit.slotOf Z "java/lang/Throwable" "cause" "Ljava/lang/Throwable;" := slot_ne (a0 := a0) (C := "com/example/hallstatt/hallstatt/InvalidValueException") (Or.inl (wd_71 hw)) (Or.inl (wd_68 hw)) (by decide) pf_1 pf_0
theorem sn_1 {a0 : Array Value} {Z : State} (hw : ∀ d ∈ tables_1, d.before a0 Z = true) : Jvm.RoadKit.slotOf Z "java/lang/Throwable" "suppressedExceptions" "Ljava/util/List;" ≠ Jvm.RoadKit.slotOf Z "java/lang/Throwable" "cause" "Ljava/lang/Throwable;" := slot_ne (a0 := a0) (C := "com/example/hallstatt/hallstatt/InvalidValueException") (Or.inl (wd_74 hw)) (Or.inl (wd_68 hw)) (by decide) pf_2 pf_0
theorem sn_2 {a0 : Array Value} {Z : State} (hw : ∀ d ∈ tables_1, d.before a0 Z = true) : Jvm.RoadKit.slotOf Z "java/lang/Throwable" "suppressedExceptions" "Ljava/util/List;" ≠ Jvm.RoadKit.slotOf Z "java/lang/Throwable" "stackTrace" "[Ljava/lang/StackTraceElement;" := slot_ne (a0 := a0) (C := "com/example/hallstatt/hallstatt/InvalidValueException") (Or.inl (wd_74 hw)) (Or.inl (wd_71 hw)) (by decide) pf_2 pf_1
theorem sn_3 {a0 : Array Value} {Z : State} (hw : ∀ d ∈ tables_1, d.before a0 Z = true) : Jvm.RoadKit.slotOf Z "java/lang/Throwable" "stackTrace" "[Ljava/lang/StackTraceElement;" ≠ Jvm.RoadKit.slotOf Z "java/lang/Throwable" "suppressedExceptions" "Ljava/util/List;" := slot_ne (a0 := a0) (C := "com/example/hallstatt/hallstatt/InvalidValueException") (Or.inl (wd_71 hw)) (Or.inl (wd_74 hw)) (by decide) pf_1 pf_2
theorem sn_4 {a0 : Array Value} {Z : State} (hw : ∀ d ∈ tables_1, d.before a0 Z = true) : Jvm.RoadKit.slotOf Z "java/lang/Throwable" "backtrace" "Ljava/lang/Object;" ≠ Jvm.RoadKit.slotOf Z "java/lang/Throwable" "cause" "Ljava/lang/Throwable;" := slot_ne (a0 := a0) (C := "com/example/hallstatt/hallstatt/InvalidValueException") (Or.inl (wd_99 hw)) (Or.inl (wd_68 hw)) (by decide) pf_3 pf_0
theorem sn_5 {a0 : Array Value} {Z : State} (hw : ∀ d ∈ tables_1, d.before a0 Z = true) : Jvm.RoadKit.slotOf Z "java/lang/Throwable" "backtrace" "Ljava/lang/Object;" ≠ Jvm.RoadKit.slotOf Z "java/lang/Throwable" "stackTrace" "[Ljava/lang/StackTraceElement;" := slot_ne (a0 := a0) (C := "com/example/hallstatt/hallstatt/InvalidValueException") (Or.inl (wd_99 hw)) (Or.inl (wd_71 hw)) (by decide) pf_3 pf_1
theorem sn_6 {a0 : Array Value} {Z : State} (hw : ∀ d ∈ tables_1, d.before a0 Z = true) : Jvm.RoadKit.slotOf Z "java/lang/Throwable" "backtrace" "Ljava/lang/Object;" ≠ Jvm.RoadKit.slotOf Z "java/lang/Throwable" "suppressedExceptions" "Ljava/util/List;" := slot_ne (a0 := a0) (C := "com/example/hallstatt/hallstatt/InvalidValueException") (Or.inl (wd_99 hw)) (Or.inl (wd_74 hw)) (by decide) pf_3 pf_2
theorem sn_7 {a0 : Array Value} {Z : State} (hw : ∀ d ∈ tables_1, d.before a0 Z = true) : Jvm.RoadKit.slotOf Z "java/lang/Throwable" "detailMessage" "Ljava/lang/String;" ≠ Jvm.RoadKit.slotOf Z "java/lang/Throwable" "cause" "Ljava/lang/Throwable;" := slot_ne (a0 := a0) (C := "com/example/hallstatt/hallstatt/InvalidValueException") (Or.inl (wd_98 hw)) (Or.inl (wd_68 hw)) (by decide) pf_4 pf_0
theorem sn_8 {a0 : Array Value} {Z : State} (hw : ∀ d ∈ tables_1, d.before a0 Z = true) : Jvm.RoadKit.slotOf Z "java/lang/Throwable" "detailMessage" "Ljava/lang/String;" ≠ Jvm.RoadKit.slotOf Z "java/lang/Throwable" "stackTrace" "[Ljava/lang/StackTraceElement;" := slot_ne (a0 := a0) (C := "com/example/hallstatt/hallstatt/InvalidValueException") (Or.inl (wd_98 hw)) (Or.inl (wd_71 hw)) (by decide) pf_4 pf_1
theorem sn_9 {a0 : Array Value} {Z : State} (hw : ∀ d ∈ tables_1, d.before a0 Z = true) : Jvm.RoadKit.slotOf Z "java/lang/Throwable" "detailMessage" "Ljava/lang/String;" ≠ Jvm.RoadKit.slotOf Z "java/lang/Throwable" "suppressedExceptions" "Ljava/util/List;" := slot_ne (a0 := a0) (C := "com/example/hallstatt/hallstatt/InvalidValueException") (Or.inl (wd_98 hw)) (Or.inl (wd_74 hw)) (by decide) pf_4 pf_2
theorem sn_10 {a0 : Array Value} {Z : State} (hw : ∀ d ∈ tables_1, d.before a0 Z = true) : Jvm.RoadKit.slotOf Z "java/lang/AbstractStringBuilder" "coder" "B" ≠ Jvm.RoadKit.slotOf Z "java/lang/AbstractStringBuilder" "value" "[B" := slot_ne (a0 := a0) (C := "java/lang/StringBuilder") (Or.inl (wd_126 hw)) (Or.inl (wd_124 hw)) (by decide) pf_6 pf_5
theorem sn_11 {a0 : Array Value} {Z : State} (hw : ∀ d ∈ tables_1, d.before a0 Z = true) : Jvm.RoadKit.slotOf Z "java/lang/AbstractStringBuilder" "value" "[B" ≠ Jvm.RoadKit.slotOf Z "java/lang/AbstractStringBuilder" "coder" "B" := slot_ne (a0 := a0) (C := "java/lang/StringBuilder") (Or.inl (wd_124 hw)) (Or.inl (wd_126 hw)) (by decide) pf_5 pf_6
theorem sn_12 {a0 : Array Value} {Z : State} (hw : ∀ d ∈ tables_1, d.before a0 Z = true) : Jvm.RoadKit.slotOf Z "java/lang/AbstractStringBuilder" "count" "I" ≠ Jvm.RoadKit.slotOf Z "java/lang/AbstractStringBuilder" "value" "[B" := slot_ne (a0 := a0) (C := "java/lang/StringBuilder") (Or.inl (wd_148 hw)) (Or.inl (wd_124 hw)) (by decide) pf_7 pf_5
theorem sn_13 {a0 : Array Value} {Z : State} (hw : ∀ d ∈ tables_1, d.before a0 Z = true) : Jvm.RoadKit.slotOf Z "java/lang/AbstractStringBuilder" "count" "I" ≠ Jvm.RoadKit.slotOf Z "java/lang/AbstractStringBuilder" "coder" "B" := slot_ne (a0 := a0) (C := "java/lang/StringBuilder") (Or.inl (wd_148 hw)) (Or.inl (wd_126 hw)) (by decide) pf_7 pf_6
theorem sn_14 {a0 : Array Value} {Z : State} (hw : ∀ d ∈ tables_1, d.before a0 Z = true) : Jvm.RoadKit.slotOf Z "java/lang/AbstractStringBuilder" "value" "[B" ≠ Jvm.RoadKit.slotOf Z "java/lang/AbstractStringBuilder" "count" "I" := slot_ne (a0 := a0) (C := "java/lang/StringBuilder") (Or.inl (wd_124 hw)) (Or.inl (wd_148 hw)) (by decide) pf_5 pf_7
theorem sn_15 {a0 : Array Value} {Z : State} (hw : ∀ d ∈ tables_1, d.before a0 Z = true) : Jvm.RoadKit.slotOf Z "java/lang/AbstractStringBuilder" "coder" "B" ≠ Jvm.RoadKit.slotOf Z "java/lang/AbstractStringBuilder" "count" "I" := slot_ne (a0 := a0) (C := "java/lang/StringBuilder") (Or.inl (wd_126 hw)) (Or.inl (wd_148 hw)) (by decide) pf_6 pf_7
theorem sn_16 {a0 : Array Value} {Z : State} (hw : ∀ d ∈ tables_1, d.before a0 Z = true) : Jvm.RoadKit.slotOf Z "java/lang/String" "value" "[B" ≠ Jvm.RoadKit.slotOf Z "java/lang/String" "coder" "B" := slot_ne (a0 := a0) (C := "java/lang/String") (Or.inr (wd_33 hw)) (Or.inr (wd_31 hw)) (by decide) pf_5 pf_6
theorem sn_17 {a0 : Array Value} {Z : State} (hw : ∀ d ∈ tables_1, d.before a0 Z = true) : Jvm.RoadKit.slotOf Z "java/lang/String" "coder" "B" ≠ Jvm.RoadKit.slotOf Z "java/lang/String" "value" "[B" := slot_ne (a0 := a0) (C := "java/lang/String") (Or.inr (wd_31 hw)) (Or.inr (wd_33 hw)) (by decide) pf_6 pf_5
theorem d_jdk_29_method_69_code_0 : decode jdk_29_method_69_code 0 = .ok (.iload_n 0, 1) := by decide +kernel
theorem d_jdk_29_method_69_code_1 : decode jdk_29_method_69_code 1 = .ok (.iload_n 1, 1) := by decide +kernel
theorem d_jdk_29_method_69_code_10 : decode jdk_29_method_69_code 10 = .ok (.ireturn, 1) := by decide +kernel
theorem d_jdk_29_method_69_code_2 : decode jdk_29_method_69_code 2 = .ok (.if_icmp .gt 7, 3) := by decide +kernel
theorem d_jdk_29_method_69_code_5 : decode jdk_29_method_69_code 5 = .ok (.iload_n 0, 1) := by decide +kernel
theorem d_jdk_29_method_69_code_6 : decode jdk_29_method_69_code 6 = .ok (.goto 4, 3) := by decide +kernel
theorem d_jdk_29_method_69_code_9 : decode jdk_29_method_69_code 9 = .ok (.iload_n 1, 1) := by decide +kernel
theorem d_jdk_42_method_139_code_0 : decode jdk_42_method_139_code 0 = .ok (.getstatic 38, 3) := by decide +kernel
theorem d_jdk_42_method_139_code_10 : decode jdk_42_method_139_code 10 = .ok (.ifCond .eq 16, 3) := by decide +kernel
theorem d_jdk_42_method_139_code_13 : decode jdk_42_method_139_code 13 = .ok (.new 10, 3) := by decide +kernel
theorem d_jdk_42_method_139_code_16 : decode jdk_42_method_139_code 16 = .ok (.dup, 1) := by decide +kernel
theorem d_jdk_42_method_139_code_17 : decode jdk_42_method_139_code 17 = .ok (.iload_n 0, 1) := by decide +kernel
theorem d_jdk_42_method_139_code_18 : decode jdk_42_method_139_code 18 = .ok (.invokestatic 1018, 3) := by decide +kernel
theorem d_jdk_42_method_139_code_21 : decode jdk_42_method_139_code 21 = .ok (.iconst 0, 1) := by decide +kernel
theorem d_jdk_42_method_139_code_22 : decode jdk_42_method_139_code 22 = .ok (.invokespecial 209, 3) := by decide +kernel
theorem d_jdk_42_method_139_code_25 : decode jdk_42_method_139_code 25 = .ok (.areturn, 1) := by decide +kernel
theorem d_jdk_42_method_139_code_3 : decode jdk_42_method_139_code 3 = .ok (.ifCond .eq 23, 3) := by decide +kernel
theorem d_jdk_42_method_139_code_6 : decode jdk_42_method_139_code 6 = .ok (.iload_n 0, 1) := by decide +kernel
theorem d_jdk_42_method_139_code_7 : decode jdk_42_method_139_code 7 = .ok (.invokestatic 1015, 3) := by decide +kernel
theorem d_jdk_42_method_147_code_0 : decode jdk_42_method_147_code 0 = .ok (.aload_n 0, 1) := by decide +kernel
theorem d_jdk_42_method_147_code_1 : decode jdk_42_method_147_code 1 = .ok (.invokevirtual 335, 3) := by decide +kernel
theorem d_jdk_42_method_147_code_12 : decode jdk_42_method_147_code 12 = .ok (.iconst 0, 1) := by decide +kernel
theorem d_jdk_42_method_147_code_13 : decode jdk_42_method_147_code 13 = .ok (.aload_n 1, 1) := by decide +kernel
theorem d_jdk_42_method_147_code_14 : decode jdk_42_method_147_code 14 = .ok (.iload_n 2, 1) := by decide +kernel
theorem d_jdk_42_method_147_code_15 : decode jdk_42_method_147_code 15 = .ok (.iload_n 3, 1) := by decide +kernel
theorem d_jdk_42_method_147_code_16 : decode jdk_42_method_147_code 16 = .ok (.ishl, 1) := by decide +kernel
theorem d_jdk_42_method_147_code_17 : decode jdk_42_method_147_code 17 = .ok (.aload_n 0, 1) := by decide +kernel
theorem d_jdk_42_method_147_code_18 : decode jdk_42_method_147_code 18 = .ok (.getfield 9, 3) := by decide +kernel
theorem d_jdk_42_method_147_code_21 : decode jdk_42_method_147_code 21 = .ok (.arraylength, 1) := by decide +kernel
theorem d_jdk_42_method_147_code_22 : decode jdk_42_method_147_code 22 = .ok (.invokestatic 212, 3) := by decide +kernel
theorem d_jdk_42_method_147_code_25 : decode jdk_42_method_147_code 25 = .ok (.goto 18, 3) := by decide +kernel
theorem d_jdk_42_method_147_code_4 : decode jdk_42_method_147_code 4 = .ok (.iload_n 3, 1) := by decide +kernel
theorem d_jdk_42_method_147_code_43 : decode jdk_42_method_147_code 43 = .ok (.return_, 1) := by decide +kernel
theorem d_jdk_42_method_147_code_5 : decode jdk_42_method_147_code 5 = .ok (.if_icmp .ne 23, 3) := by decide +kernel
theorem d_jdk_42_method_147_code_8 : decode jdk_42_method_147_code 8 = .ok (.aload_n 0, 1) := by decide +kernel
theorem d_jdk_42_method_147_code_9 : decode jdk_42_method_147_code 9 = .ok (.getfield 9, 3) := by decide +kernel
theorem d_jdk_42_method_149_code_0 : decode jdk_42_method_149_code 0 = .ok (.aload_n 0, 1) := by decide +kernel
theorem d_jdk_42_method_149_code_1 : decode jdk_42_method_149_code 1 = .ok (.invokespecial 1, 3) := by decide +kernel
theorem d_jdk_42_method_149_code_11 : decode jdk_42_method_149_code 11 = .ok (.getfield 9, 3) := by decide +kernel
theorem d_jdk_42_method_149_code_14 : decode jdk_42_method_149_code 14 = .ok (.putfield 9, 3) := by decide +kernel
theorem d_jdk_42_method_149_code_17 : decode jdk_42_method_149_code 17 = .ok (.aload_n 0, 1) := by decide +kernel
theorem d_jdk_42_method_149_code_18 : decode jdk_42_method_149_code 18 = .ok (.ldc 7, 2) := by decide +kernel
theorem d_jdk_42_method_149_code_20 : decode jdk_42_method_149_code 20 = .ok (.getfield 15, 3) := by decide +kernel
theorem d_jdk_42_method_149_code_23 : decode jdk_42_method_149_code 23 = .ok (.putfield 15, 3) := by decide +kernel
theorem d_jdk_42_method_149_code_26 : decode jdk_42_method_149_code 26 = .ok (.return_, 1) := by decide +kernel
theorem d_jdk_42_method_149_code_4 : decode jdk_42_method_149_code 4 = .ok (.iload_n 3, 1) := by decide +kernel
theorem d_jdk_42_method_149_code_5 : decode jdk_42_method_149_code 5 = .ok (.ifCond .ne 22, 3) := by decide +kernel
theorem d_jdk_42_method_149_code_8 : decode jdk_42_method_149_code 8 = .ok (.aload_n 0, 1) := by decide +kernel
theorem d_jdk_42_method_149_code_9 : decode jdk_42_method_149_code 9 = .ok (.ldc 7, 2) := by decide +kernel
theorem d_jdk_42_method_150_code_0 : decode jdk_42_method_150_code 0 = .ok (.aload_n 0, 1) := by decide +kernel
theorem d_jdk_42_method_150_code_1 : decode jdk_42_method_150_code 1 = .ok (.invokespecial 1, 3) := by decide +kernel
theorem d_jdk_42_method_150_code_10 : decode jdk_42_method_150_code 10 = .ok (.invokevirtual 549, 3) := by decide +kernel
theorem d_jdk_42_method_150_code_13 : decode jdk_42_method_150_code 13 = .ok (.istore 4, 2) := by decide +kernel
theorem d_jdk_42_method_150_code_15 : decode jdk_42_method_150_code 15 = .ok (.aload_n 1, 1) := by decide +kernel
theorem d_jdk_42_method_150_code_16 : decode jdk_42_method_150_code 16 = .ok (.invokevirtual 1047, 3) := by decide +kernel
theorem d_jdk_42_method_150_code_19 : decode jdk_42_method_150_code 19 = .ok (.ifCond .eq 22, 3) := by decide +kernel
theorem d_jdk_42_method_150_code_22 : decode jdk_42_method_150_code 22 = .ok (.aload_n 0, 1) := by decide +kernel
theorem d_jdk_42_method_150_code_23 : decode jdk_42_method_150_code 23 = .ok (.iconst 0, 1) := by decide +kernel
theorem d_jdk_42_method_150_code_24 : decode jdk_42_method_150_code 24 = .ok (.putfield 15, 3) := by decide +kernel
theorem d_jdk_42_method_150_code_27 : decode jdk_42_method_150_code 27 = .ok (.aload_n 0, 1) := by decide +kernel
theorem d_jdk_42_method_150_code_28 : decode jdk_42_method_150_code 28 = .ok (.aload_n 3, 1) := by decide +kernel
theorem d_jdk_42_method_150_code_29 : decode jdk_42_method_150_code 29 = .ok (.iconst 0, 1) := by decide +kernel
theorem d_jdk_42_method_150_code_30 : decode jdk_42_method_150_code 30 = .ok (.iload 4, 2) := by decide +kernel
theorem d_jdk_42_method_150_code_32 : decode jdk_42_method_150_code 32 = .ok (.invokestatic 54, 3) := by decide +kernel
theorem d_jdk_42_method_150_code_35 : decode jdk_42_method_150_code 35 = .ok (.putfield 9, 3) := by decide +kernel
theorem d_jdk_42_method_150_code_38 : decode jdk_42_method_150_code 38 = .ok (.goto 59, 3) := by decide +kernel
theorem d_jdk_42_method_150_code_4 : decode jdk_42_method_150_code 4 = .ok (.aload_n 1, 1) := by decide +kernel
theorem d_jdk_42_method_150_code_5 : decode jdk_42_method_150_code 5 = .ok (.invokevirtual 552, 3) := by decide +kernel
theorem d_jdk_42_method_150_code_8 : decode jdk_42_method_150_code 8 = .ok (.astore_n 3, 1) := by decide +kernel
theorem d_jdk_42_method_150_code_9 : decode jdk_42_method_150_code 9 = .ok (.aload_n 1, 1) := by decide +kernel
theorem d_jdk_42_method_150_code_97 : decode jdk_42_method_150_code 97 = .ok (.return_, 1) := by decide +kernel
theorem d_jdk_42_method_151_code_0 : decode jdk_42_method_151_code 0 = .ok (.aload_n 0, 1) := by decide +kernel
theorem d_jdk_42_method_151_code_1 : decode jdk_42_method_151_code 1 = .ok (.invokespecial 1, 3) := by decide +kernel
theorem d_jdk_42_method_151_code_10 : decode jdk_42_method_151_code 10 = .ok (.iload_n 2, 1) := by decide +kernel
theorem d_jdk_42_method_151_code_11 : decode jdk_42_method_151_code 11 = .ok (.putfield 15, 3) := by decide +kernel
theorem d_jdk_42_method_151_code_14 : decode jdk_42_method_151_code 14 = .ok (.return_, 1) := by decide +kernel
theorem d_jdk_42_method_151_code_4 : decode jdk_42_method_151_code 4 = .ok (.aload_n 0, 1) := by decide +kernel
theorem d_jdk_42_method_151_code_5 : decode jdk_42_method_151_code 5 = .ok (.aload_n 1, 1) := by decide +kernel
theorem d_jdk_42_method_151_code_6 : decode jdk_42_method_151_code 6 = .ok (.putfield 9, 3) := by decide +kernel
theorem d_jdk_42_method_151_code_9 : decode jdk_42_method_151_code 9 = .ok (.aload_n 0, 1) := by decide +kernel
theorem d_jdk_42_method_152_code_0 : decode jdk_42_method_152_code 0 = .ok (.getstatic 38, 3) := by decide +kernel
theorem d_jdk_42_method_152_code_10 : decode jdk_42_method_152_code 10 = .ok (.goto 4, 3) := by decide +kernel
theorem d_jdk_42_method_152_code_14 : decode jdk_42_method_152_code 14 = .ok (.ireturn, 1) := by decide +kernel
theorem d_jdk_42_method_152_code_3 : decode jdk_42_method_152_code 3 = .ok (.ifCond .eq 10, 3) := by decide +kernel
theorem d_jdk_42_method_152_code_6 : decode jdk_42_method_152_code 6 = .ok (.aload_n 0, 1) := by decide +kernel
theorem d_jdk_42_method_152_code_7 : decode jdk_42_method_152_code 7 = .ok (.getfield 15, 3) := by decide +kernel
theorem d_jdk_42_method_3_code_0 : decode jdk_42_method_3_code 0 = .ok (.aload_n 0, 1) := by decide +kernel
theorem d_jdk_42_method_3_code_1 : decode jdk_42_method_3_code 1 = .ok (.aload_n 1, 1) := by decide +kernel
theorem d_jdk_42_method_3_code_2 : decode jdk_42_method_3_code 2 = .ok (.iconst 0, 1) := by decide +kernel
theorem d_jdk_42_method_3_code_3 : decode jdk_42_method_3_code 3 = .ok (.aload_n 1, 1) := by decide +kernel
theorem d_jdk_42_method_3_code_4 : decode jdk_42_method_3_code 4 = .ok (.arraylength, 1) := by decide +kernel
theorem d_jdk_42_method_3_code_5 : decode jdk_42_method_3_code 5 = .ok (.aconst_null, 1) := by decide +kernel
theorem d_jdk_42_method_3_code_6 : decode jdk_42_method_3_code 6 = .ok (.invokespecial 27, 3) := by decide +kernel
theorem d_jdk_42_method_3_code_9 : decode jdk_42_method_3_code 9 = .ok (.return_, 1) := by decide +kernel
theorem d_jdk_42_method_53_code_0 : decode jdk_42_method_53_code 0 = .ok (.aload_n 0, 1) := by decide +kernel
theorem d_jdk_42_method_53_code_1 : decode jdk_42_method_53_code 1 = .ok (.aload_n 1, 1) := by decide +kernel
theorem d_jdk_42_method_53_code_2 : decode jdk_42_method_53_code 2 = .ok (.aconst_null, 1) := by decide +kernel
theorem d_jdk_42_method_53_code_3 : decode jdk_42_method_53_code 3 = .ok (.invokespecial 489, 3) := by decide +kernel
theorem d_jdk_42_method_53_code_6 : decode jdk_42_method_53_code 6 = .ok (.return_, 1) := by decide +kernel
theorem d_jdk_42_method_66_code_0 : decode jdk_42_method_66_code 0 = .ok (.aload_n 0, 1) := by decide +kernel
theorem d_jdk_42_method_66_code_1 : decode jdk_42_method_66_code 1 = .ok (.aload_n 1, 1) := by decide +kernel
theorem d_jdk_42_method_66_code_2 : decode jdk_42_method_66_code 2 = .ok (.if_acmp .ne 5, 3) := by decide +kernel
theorem d_jdk_42_method_66_code_5 : decode jdk_42_method_66_code 5 = .ok (.iconst 1, 1) := by decide +kernel
theorem d_jdk_42_method_66_code_6 : decode jdk_42_method_66_code 6 = .ok (.ireturn, 1) := by decide +kernel
theorem d_jdk_43_method_3_code_0 : decode jdk_43_method_3_code 0 = .ok (.iload_n 0, 1) := by decide +kernel
theorem d_jdk_43_method_3_code_1 : decode jdk_43_method_3_code 1 = .ok (.sipush 255, 3) := by decide +kernel
theorem d_jdk_43_method_3_code_12 : decode jdk_43_method_3_code 12 = .ok (.ireturn, 1) := by decide +kernel
theorem d_jdk_43_method_3_code_4 : decode jdk_43_method_3_code 4 = .ok (.if_icmp .gt 7, 3) := by decide +kernel
theorem d_jdk_43_method_3_code_7 : decode jdk_43_method_3_code 7 = .ok (.iconst 1, 1) := by decide +kernel
theorem d_jdk_43_method_3_code_8 : decode jdk_43_method_3_code 8 = .ok (.goto 4, 3) := by decide +kernel
theorem d_jdk_43_method_46_code_0 : decode jdk_43_method_46_code 0 = .ok (.iconst 1, 1) := by decide +kernel
theorem d_jdk_43_method_46_code_1 : decode jdk_43_method_46_code 1 = .ok (.newarray .byte, 2) := by decide +kernel
theorem d_jdk_43_method_46_code_3 : decode jdk_43_method_46_code 3 = .ok (.dup, 1) := by decide +kernel
theorem d_jdk_43_method_46_code_4 : decode jdk_43_method_46_code 4 = .ok (.iconst 0, 1) := by decide +kernel
theorem d_jdk_43_method_46_code_5 : decode jdk_43_method_46_code 5 = .ok (.iload_n 0, 1) := by decide +kernel
theorem d_jdk_43_method_46_code_6 : decode jdk_43_method_46_code 6 = .ok (.i2b, 1) := by decide +kernel
theorem d_jdk_43_method_46_code_7 : decode jdk_43_method_46_code 7 = .ok (.bastore, 1) := by decide +kernel
theorem d_jdk_43_method_46_code_8 : decode jdk_43_method_46_code 8 = .ok (.areturn, 1) := by decide +kernel
theorem d_jdk_57_method_2_code_0 : decode jdk_57_method_2_code 0 = .ok (.aload_n 0, 1) := by decide +kernel
theorem d_jdk_57_method_2_code_1 : decode jdk_57_method_2_code 1 = .ok (.aload_n 1, 1) := by decide +kernel
theorem d_jdk_57_method_2_code_2 : decode jdk_57_method_2_code 2 = .ok (.invokespecial 7, 3) := by decide +kernel
theorem d_jdk_57_method_2_code_5 : decode jdk_57_method_2_code 5 = .ok (.return_, 1) := by decide +kernel
theorem d_jdk_58_method_2_code_0 : decode jdk_58_method_2_code 0 = .ok (.aload_n 0, 1) := by decide +kernel
theorem d_jdk_58_method_2_code_1 : decode jdk_58_method_2_code 1 = .ok (.aload_n 1, 1) := by decide +kernel
theorem d_jdk_58_method_2_code_2 : decode jdk_58_method_2_code 2 = .ok (.invokespecial 7, 3) := by decide +kernel
theorem d_jdk_58_method_2_code_5 : decode jdk_58_method_2_code 5 = .ok (.return_, 1) := by decide +kernel
theorem d_jdk_59_method_2_code_0 : decode jdk_59_method_2_code 0 = .ok (.aload_n 0, 1) := by decide +kernel
theorem d_jdk_59_method_2_code_1 : decode jdk_59_method_2_code 1 = .ok (.aload_n 1, 1) := by decide +kernel
theorem d_jdk_59_method_2_code_2 : decode jdk_59_method_2_code 2 = .ok (.invokespecial 7, 3) := by decide +kernel
theorem d_jdk_59_method_2_code_5 : decode jdk_59_method_2_code 5 = .ok (.return_, 1) := by decide +kernel
theorem d_jdk_65_method_131_code_0 : decode jdk_65_method_131_code 0 = .ok (.iload_n 1, 1) := by decide +kernel
theorem d_jdk_65_method_131_code_1 : decode jdk_65_method_131_code 1 = .ok (.iload_n 0, 1) := by decide +kernel
theorem d_jdk_65_method_131_code_2 : decode jdk_65_method_131_code 2 = .ok (.if_icmp .ge 35, 3) := by decide +kernel
theorem d_jdk_65_method_131_code_37 : decode jdk_65_method_131_code 37 = .ok (.return_, 1) := by decide +kernel
theorem d_jdk_65_method_132_code_0 : decode jdk_65_method_132_code 0 = .ok (.iload_n 1, 1) := by decide +kernel
theorem d_jdk_65_method_132_code_1 : decode jdk_65_method_132_code 1 = .ok (.ifCond .ne 9, 3) := by decide +kernel
theorem d_jdk_65_method_132_code_10 : decode jdk_65_method_132_code 10 = .ok (.aload_n 0, 1) := by decide +kernel
theorem d_jdk_65_method_132_code_11 : decode jdk_65_method_132_code 11 = .ok (.iload_n 1, 1) := by decide +kernel
theorem d_jdk_65_method_132_code_12 : decode jdk_65_method_132_code 12 = .ok (.iload_n 2, 1) := by decide +kernel
theorem d_jdk_65_method_132_code_13 : decode jdk_65_method_132_code 13 = .ok (.invokestatic 339, 3) := by decide +kernel
theorem d_jdk_65_method_132_code_16 : decode jdk_65_method_132_code 16 = .ok (.areturn, 1) := by decide +kernel
theorem d_jdk_65_method_132_code_4 : decode jdk_65_method_132_code 4 = .ok (.iload_n 2, 1) := by decide +kernel
theorem d_jdk_65_method_132_code_5 : decode jdk_65_method_132_code 5 = .ok (.aload_n 0, 1) := by decide +kernel
theorem d_jdk_65_method_132_code_6 : decode jdk_65_method_132_code 6 = .ok (.arraylength, 1) := by decide +kernel
theorem d_jdk_65_method_132_code_7 : decode jdk_65_method_132_code 7 = .ok (.if_icmp .eq 10, 3) := by decide +kernel
theorem d_jdk_65_method_133_code_0 : decode jdk_65_method_133_code 0 = .ok (.iload_n 1, 1) := by decide +kernel
theorem d_jdk_65_method_133_code_1 : decode jdk_65_method_133_code 1 = .ok (.iload_n 2, 1) := by decide +kernel
theorem d_jdk_65_method_133_code_10 : decode jdk_65_method_133_code 10 = .ok (.newarray .byte, 2) := by decide +kernel
theorem d_jdk_65_method_133_code_12 : decode jdk_65_method_133_code 12 = .ok (.astore 4, 2) := by decide +kernel
theorem d_jdk_65_method_133_code_14 : decode jdk_65_method_133_code 14 = .ok (.aload_n 0, 1) := by decide +kernel
theorem d_jdk_65_method_133_code_15 : decode jdk_65_method_133_code 15 = .ok (.iload_n 1, 1) := by decide +kernel
theorem d_jdk_65_method_133_code_16 : decode jdk_65_method_133_code 16 = .ok (.aload 4, 2) := by decide +kernel
theorem d_jdk_65_method_133_code_18 : decode jdk_65_method_133_code 18 = .ok (.iconst 0, 1) := by decide +kernel
theorem d_jdk_65_method_133_code_19 : decode jdk_65_method_133_code 19 = .ok (.aload_n 0, 1) := by decide +kernel
theorem d_jdk_65_method_133_code_2 : decode jdk_65_method_133_code 2 = .ok (.invokestatic 343, 3) := by decide +kernel
theorem d_jdk_65_method_133_code_20 : decode jdk_65_method_133_code 20 = .ok (.arraylength, 1) := by decide +kernel
theorem d_jdk_65_method_133_code_21 : decode jdk_65_method_133_code 21 = .ok (.iload_n 1, 1) := by decide +kernel
theorem d_jdk_65_method_133_code_22 : decode jdk_65_method_133_code 22 = .ok (.isub, 1) := by decide +kernel
theorem d_jdk_65_method_133_code_23 : decode jdk_65_method_133_code 23 = .ok (.iload_n 3, 1) := by decide +kernel
theorem d_jdk_65_method_133_code_24 : decode jdk_65_method_133_code 24 = .ok (.invokestatic 304, 3) := by decide +kernel
theorem d_jdk_65_method_133_code_27 : decode jdk_65_method_133_code 27 = .ok (.invokestatic 150, 3) := by decide +kernel
theorem d_jdk_65_method_133_code_30 : decode jdk_65_method_133_code 30 = .ok (.aload 4, 2) := by decide +kernel
theorem d_jdk_65_method_133_code_32 : decode jdk_65_method_133_code 32 = .ok (.areturn, 1) := by decide +kernel
theorem d_jdk_65_method_133_code_5 : decode jdk_65_method_133_code 5 = .ok (.iload_n 2, 1) := by decide +kernel
theorem d_jdk_65_method_133_code_6 : decode jdk_65_method_133_code 6 = .ok (.iload_n 1, 1) := by decide +kernel
theorem d_jdk_65_method_133_code_7 : decode jdk_65_method_133_code 7 = .ok (.isub, 1) := by decide +kernel
theorem d_jdk_65_method_133_code_8 : decode jdk_65_method_133_code 8 = .ok (.istore_n 3, 1) := by decide +kernel
theorem d_jdk_65_method_133_code_9 : decode jdk_65_method_133_code 9 = .ok (.iload_n 3, 1) := by decide +kernel
theorem d_jdk_67_method_1_code_0 : decode jdk_67_method_1_code 0 = .ok (.aload_n 0, 1) := by decide +kernel
theorem d_jdk_67_method_1_code_1 : decode jdk_67_method_1_code 1 = .ok (.bipush 16, 2) := by decide +kernel
theorem d_jdk_67_method_1_code_3 : decode jdk_67_method_1_code 3 = .ok (.invokespecial 1, 3) := by decide +kernel
theorem d_jdk_67_method_1_code_6 : decode jdk_67_method_1_code 6 = .ok (.return_, 1) := by decide +kernel
theorem d_jdk_67_method_42_code_0 : decode jdk_67_method_42_code 0 = .ok (.new 18, 3) := by decide +kernel
theorem d_jdk_67_method_42_code_3 : decode jdk_67_method_42_code 3 = .ok (.dup, 1) := by decide +kernel
theorem d_jdk_67_method_42_code_4 : decode jdk_67_method_42_code 4 = .ok (.aload_n 0, 1) := by decide +kernel
theorem d_jdk_67_method_42_code_5 : decode jdk_67_method_42_code 5 = .ok (.invokespecial 137, 3) := by decide +kernel
theorem d_jdk_67_method_42_code_8 : decode jdk_67_method_42_code 8 = .ok (.areturn, 1) := by decide +kernel
theorem d_jdk_67_method_7_code_0 : decode jdk_67_method_7_code 0 = .ok (.aload_n 0, 1) := by decide +kernel
theorem d_jdk_67_method_7_code_1 : decode jdk_67_method_7_code 1 = .ok (.aload_n 1, 1) := by decide +kernel
theorem d_jdk_67_method_7_code_2 : decode jdk_67_method_7_code 2 = .ok (.invokespecial 29, 3) := by decide +kernel
theorem d_jdk_67_method_7_code_5 : decode jdk_67_method_7_code 5 = .ok (.pop, 1) := by decide +kernel
theorem d_jdk_67_method_7_code_6 : decode jdk_67_method_7_code 6 = .ok (.aload_n 0, 1) := by decide +kernel
theorem d_jdk_67_method_7_code_7 : decode jdk_67_method_7_code 7 = .ok (.areturn, 1) := by decide +kernel
theorem d_jdk_67_method_93_code_0 : decode jdk_67_method_93_code 0 = .ok (.aload_n 0, 1) := by decide +kernel
theorem d_jdk_67_method_93_code_1 : decode jdk_67_method_93_code 1 = .ok (.invokespecial 343, 3) := by decide +kernel
theorem d_jdk_67_method_93_code_4 : decode jdk_67_method_93_code 4 = .ok (.ireturn, 1) := by decide +kernel
theorem d_jdk_68_method_22_code_0 : decode jdk_68_method_22_code 0 = .ok (.aload_n 1, 1) := by decide +kernel
theorem d_jdk_68_method_22_code_1 : decode jdk_68_method_22_code 1 = .ok (.ifnonnull 8, 3) := by decide +kernel
theorem d_jdk_68_method_22_code_10 : decode jdk_68_method_22_code 10 = .ok (.invokevirtual 32, 3) := by decide +kernel
theorem d_jdk_68_method_22_code_13 : decode jdk_68_method_22_code 13 = .ok (.istore_n 2, 1) := by decide +kernel
theorem d_jdk_68_method_22_code_14 : decode jdk_68_method_22_code 14 = .ok (.aload_n 0, 1) := by decide +kernel
theorem d_jdk_68_method_22_code_15 : decode jdk_68_method_22_code 15 = .ok (.aload_n 0, 1) := by decide +kernel
theorem d_jdk_68_method_22_code_16 : decode jdk_68_method_22_code 16 = .ok (.getfield 79, 3) := by decide +kernel
theorem d_jdk_68_method_22_code_19 : decode jdk_68_method_22_code 19 = .ok (.iload_n 2, 1) := by decide +kernel
theorem d_jdk_68_method_22_code_20 : decode jdk_68_method_22_code 20 = .ok (.iadd, 1) := by decide +kernel
theorem d_jdk_68_method_22_code_21 : decode jdk_68_method_22_code 21 = .ok (.invokevirtual 100, 3) := by decide +kernel
theorem d_jdk_68_method_22_code_24 : decode jdk_68_method_22_code 24 = .ok (.aload_n 0, 1) := by decide +kernel
theorem d_jdk_68_method_22_code_25 : decode jdk_68_method_22_code 25 = .ok (.aload_n 0, 1) := by decide +kernel
theorem d_jdk_68_method_22_code_26 : decode jdk_68_method_22_code 26 = .ok (.getfield 79, 3) := by decide +kernel
theorem d_jdk_68_method_22_code_29 : decode jdk_68_method_22_code 29 = .ok (.aload_n 1, 1) := by decide +kernel
theorem d_jdk_68_method_22_code_30 : decode jdk_68_method_22_code 30 = .ok (.invokevirtual 208, 3) := by decide +kernel
theorem d_jdk_68_method_22_code_33 : decode jdk_68_method_22_code 33 = .ok (.aload_n 0, 1) := by decide +kernel
theorem d_jdk_68_method_22_code_34 : decode jdk_68_method_22_code 34 = .ok (.dup, 1) := by decide +kernel
theorem d_jdk_68_method_22_code_35 : decode jdk_68_method_22_code 35 = .ok (.getfield 79, 3) := by decide +kernel
theorem d_jdk_68_method_22_code_38 : decode jdk_68_method_22_code 38 = .ok (.iload_n 2, 1) := by decide +kernel
theorem d_jdk_68_method_22_code_39 : decode jdk_68_method_22_code 39 = .ok (.iadd, 1) := by decide +kernel
theorem d_jdk_68_method_22_code_40 : decode jdk_68_method_22_code 40 = .ok (.putfield 79, 3) := by decide +kernel
theorem d_jdk_68_method_22_code_43 : decode jdk_68_method_22_code 43 = .ok (.aload_n 0, 1) := by decide +kernel
theorem d_jdk_68_method_22_code_44 : decode jdk_68_method_22_code 44 = .ok (.areturn, 1) := by decide +kernel
theorem d_jdk_68_method_22_code_9 : decode jdk_68_method_22_code 9 = .ok (.aload_n 1, 1) := by decide +kernel
theorem d_jdk_68_method_2_code_0 : decode jdk_68_method_2_code 0 = .ok (.aload_n 0, 1) := by decide +kernel
theorem d_jdk_68_method_2_code_1 : decode jdk_68_method_2_code 1 = .ok (.invokespecial 3, 3) := by decide +kernel
theorem d_jdk_68_method_2_code_10 : decode jdk_68_method_2_code 10 = .ok (.aload_n 0, 1) := by decide +kernel
theorem d_jdk_68_method_2_code_11 : decode jdk_68_method_2_code 11 = .ok (.iload_n 1, 1) := by decide +kernel
theorem d_jdk_68_method_2_code_12 : decode jdk_68_method_2_code 12 = .ok (.newarray .byte, 2) := by decide +kernel
theorem d_jdk_68_method_2_code_14 : decode jdk_68_method_2_code 14 = .ok (.putfield 15, 3) := by decide +kernel
theorem d_jdk_68_method_2_code_17 : decode jdk_68_method_2_code 17 = .ok (.aload_n 0, 1) := by decide +kernel
theorem d_jdk_68_method_2_code_18 : decode jdk_68_method_2_code 18 = .ok (.iconst 0, 1) := by decide +kernel
theorem d_jdk_68_method_2_code_19 : decode jdk_68_method_2_code 19 = .ok (.putfield 22, 3) := by decide +kernel
theorem d_jdk_68_method_2_code_22 : decode jdk_68_method_2_code 22 = .ok (.goto 16, 3) := by decide +kernel
theorem d_jdk_68_method_2_code_38 : decode jdk_68_method_2_code 38 = .ok (.return_, 1) := by decide +kernel
theorem d_jdk_68_method_2_code_4 : decode jdk_68_method_2_code 4 = .ok (.getstatic 18, 3) := by decide +kernel
theorem d_jdk_68_method_2_code_7 : decode jdk_68_method_2_code 7 = .ok (.ifCond .eq 18, 3) := by decide +kernel
theorem d_jdk_68_method_64_code_0 : decode jdk_68_method_64_code 0 = .ok (.aload_n 0, 1) := by decide +kernel
theorem d_jdk_68_method_64_code_1 : decode jdk_68_method_64_code 1 = .ok (.getfield 15, 3) := by decide +kernel
theorem d_jdk_68_method_64_code_4 : decode jdk_68_method_64_code 4 = .ok (.areturn, 1) := by decide +kernel
theorem d_jdk_68_method_68_code_0 : decode jdk_68_method_68_code 0 = .ok (.getstatic 18, 3) := by decide +kernel
theorem d_jdk_68_method_68_code_10 : decode jdk_68_method_68_code 10 = .ok (.ifCond .ne 7, 3) := by decide +kernel
theorem d_jdk_68_method_68_code_13 : decode jdk_68_method_68_code 13 = .ok (.iconst 1, 1) := by decide +kernel
theorem d_jdk_68_method_68_code_14 : decode jdk_68_method_68_code 14 = .ok (.goto 4, 3) := by decide +kernel
theorem d_jdk_68_method_68_code_18 : decode jdk_68_method_68_code 18 = .ok (.ireturn, 1) := by decide +kernel
theorem d_jdk_68_method_68_code_3 : decode jdk_68_method_68_code 3 = .ok (.ifCond .eq 14, 3) := by decide +kernel
theorem d_jdk_68_method_68_code_6 : decode jdk_68_method_68_code 6 = .ok (.aload_n 0, 1) := by decide +kernel
theorem d_jdk_68_method_68_code_7 : decode jdk_68_method_68_code 7 = .ok (.getfield 22, 3) := by decide +kernel
theorem d_jdk_68_method_6_code_0 : decode jdk_68_method_6_code 0 = .ok (.aload_n 0, 1) := by decide +kernel
theorem d_jdk_68_method_6_code_1 : decode jdk_68_method_6_code 1 = .ok (.getfield 79, 3) := by decide +kernel
theorem d_jdk_68_method_6_code_4 : decode jdk_68_method_6_code 4 = .ok (.ireturn, 1) := by decide +kernel
theorem d_jdk_68_method_71_code_0 : decode jdk_68_method_71_code 0 = .ok (.getstatic 18, 3) := by decide +kernel
theorem d_jdk_68_method_71_code_10 : decode jdk_68_method_71_code 10 = .ok (.aload_n 1, 1) := by decide +kernel
theorem d_jdk_68_method_71_code_11 : decode jdk_68_method_71_code 11 = .ok (.invokevirtual 40, 3) := by decide +kernel
theorem d_jdk_68_method_71_code_14 : decode jdk_68_method_71_code 14 = .ok (.if_icmp .eq 7, 3) := by decide +kernel
theorem d_jdk_68_method_71_code_21 : decode jdk_68_method_71_code 21 = .ok (.return_, 1) := by decide +kernel
theorem d_jdk_68_method_71_code_3 : decode jdk_68_method_71_code 3 = .ok (.ifCond .eq 18, 3) := by decide +kernel
theorem d_jdk_68_method_71_code_6 : decode jdk_68_method_71_code 6 = .ok (.aload_n 0, 1) := by decide +kernel
theorem d_jdk_68_method_71_code_7 : decode jdk_68_method_71_code 7 = .ok (.getfield 22, 3) := by decide +kernel
theorem d_jdk_68_method_73_code_0 : decode jdk_68_method_73_code 0 = .ok (.aload_n 0, 1) := by decide +kernel
theorem d_jdk_68_method_73_code_1 : decode jdk_68_method_73_code 1 = .ok (.aload_n 2, 1) := by decide +kernel
theorem d_jdk_68_method_73_code_10 : decode jdk_68_method_73_code 10 = .ok (.iload_n 1, 1) := by decide +kernel
theorem d_jdk_68_method_73_code_11 : decode jdk_68_method_73_code 11 = .ok (.aload_n 0, 1) := by decide +kernel
theorem d_jdk_68_method_73_code_12 : decode jdk_68_method_73_code 12 = .ok (.getfield 22, 3) := by decide +kernel
theorem d_jdk_68_method_73_code_15 : decode jdk_68_method_73_code 15 = .ok (.invokevirtual 399, 3) := by decide +kernel
theorem d_jdk_68_method_73_code_18 : decode jdk_68_method_73_code 18 = .ok (.return_, 1) := by decide +kernel
theorem d_jdk_68_method_73_code_2 : decode jdk_68_method_73_code 2 = .ok (.invokevirtual 397, 3) := by decide +kernel
theorem d_jdk_68_method_73_code_5 : decode jdk_68_method_73_code 5 = .ok (.aload_n 2, 1) := by decide +kernel
theorem d_jdk_68_method_73_code_6 : decode jdk_68_method_73_code 6 = .ok (.aload_n 0, 1) := by decide +kernel
theorem d_jdk_68_method_73_code_7 : decode jdk_68_method_73_code 7 = .ok (.getfield 15, 3) := by decide +kernel
theorem d_jdk_68_method_9_code_0 : decode jdk_68_method_9_code 0 = .ok (.aload_n 0, 1) := by decide +kernel
theorem d_jdk_68_method_9_code_1 : decode jdk_68_method_9_code 1 = .ok (.getfield 15, 3) := by decide +kernel
theorem d_jdk_68_method_9_code_10 : decode jdk_68_method_9_code 10 = .ok (.istore_n 2, 1) := by decide +kernel
theorem d_jdk_68_method_9_code_11 : decode jdk_68_method_9_code 11 = .ok (.iload_n 1, 1) := by decide +kernel
theorem d_jdk_68_method_9_code_12 : decode jdk_68_method_9_code 12 = .ok (.iload_n 2, 1) := by decide +kernel
theorem d_jdk_68_method_9_code_13 : decode jdk_68_method_9_code 13 = .ok (.isub, 1) := by decide +kernel
theorem d_jdk_68_method_9_code_14 : decode jdk_68_method_9_code 14 = .ok (.ifCond .le 24, 3) := by decide +kernel
theorem d_jdk_68_method_9_code_38 : decode jdk_68_method_9_code 38 = .ok (.return_, 1) := by decide +kernel
theorem d_jdk_68_method_9_code_4 : decode jdk_68_method_9_code 4 = .ok (.arraylength, 1) := by decide +kernel
theorem d_jdk_68_method_9_code_5 : decode jdk_68_method_9_code 5 = .ok (.aload_n 0, 1) := by decide +kernel
theorem d_jdk_68_method_9_code_6 : decode jdk_68_method_9_code 6 = .ok (.getfield 22, 3) := by decide +kernel
theorem d_jdk_68_method_9_code_9 : decode jdk_68_method_9_code 9 = .ok (.ishr, 1) := by decide +kernel
theorem d_jdk_78_method_2_code_0 : decode jdk_78_method_2_code 0 = .ok (.aload_n 0, 1) := by decide +kernel
theorem d_jdk_78_method_2_code_1 : decode jdk_78_method_2_code 1 = .ok (.invokespecial 1, 3) := by decide +kernel
theorem d_jdk_78_method_2_code_10 : decode jdk_78_method_2_code 10 = .ok (.getstatic 13, 3) := by decide +kernel
theorem d_jdk_78_method_2_code_13 : decode jdk_78_method_2_code 13 = .ok (.putfield 17, 3) := by decide +kernel
theorem d_jdk_78_method_2_code_16 : decode jdk_78_method_2_code 16 = .ok (.aload_n 0, 1) := by decide +kernel
theorem d_jdk_78_method_2_code_17 : decode jdk_78_method_2_code 17 = .ok (.getstatic 20, 3) := by decide +kernel
theorem d_jdk_78_method_2_code_20 : decode jdk_78_method_2_code 20 = .ok (.putfield 24, 3) := by decide +kernel
theorem d_jdk_78_method_2_code_23 : decode jdk_78_method_2_code 23 = .ok (.aload_n 0, 1) := by decide +kernel
theorem d_jdk_78_method_2_code_24 : decode jdk_78_method_2_code 24 = .ok (.invokevirtual 27, 3) := by decide +kernel
theorem d_jdk_78_method_2_code_27 : decode jdk_78_method_2_code 27 = .ok (.pop, 1) := by decide +kernel
theorem d_jdk_78_method_2_code_28 : decode jdk_78_method_2_code 28 = .ok (.aload_n 0, 1) := by decide +kernel
theorem d_jdk_78_method_2_code_29 : decode jdk_78_method_2_code 29 = .ok (.aload_n 1, 1) := by decide +kernel
theorem d_jdk_78_method_2_code_30 : decode jdk_78_method_2_code 30 = .ok (.putfield 31, 3) := by decide +kernel
theorem d_jdk_78_method_2_code_33 : decode jdk_78_method_2_code 33 = .ok (.return_, 1) := by decide +kernel
theorem d_jdk_78_method_2_code_4 : decode jdk_78_method_2_code 4 = .ok (.aload_n 0, 1) := by decide +kernel
theorem d_jdk_78_method_2_code_5 : decode jdk_78_method_2_code 5 = .ok (.aload_n 0, 1) := by decide +kernel
theorem d_jdk_78_method_2_code_6 : decode jdk_78_method_2_code 6 = .ok (.putfield 7, 3) := by decide +kernel
theorem d_jdk_78_method_2_code_9 : decode jdk_78_method_2_code 9 = .ok (.aload_n 0, 1) := by decide +kernel
theorem d_jdk_78_method_6_code_0 : decode jdk_78_method_6_code 0 = .ok (.aload_n 0, 1) := by decide +kernel
theorem d_jdk_78_method_6_code_1 : decode jdk_78_method_6_code 1 = .ok (.getfield 31, 3) := by decide +kernel
theorem d_jdk_78_method_6_code_4 : decode jdk_78_method_6_code 4 = .ok (.areturn, 1) := by decide +kernel
theorem d_method_3_code_0 : decode method_3_code 0 = .ok (.iload_n 0, 1) := by decide +kernel
theorem d_method_3_code_1 : decode method_3_code 1 = .ok (.ifCond .ne 14, 3) := by decide +kernel
theorem d_method_3_code_11 : decode method_3_code 11 = .ok (.invokespecial 40, 3) := by decide +kernel
theorem d_method_3_code_14 : decode method_3_code 14 = .ok (.areturn, 1) := by decide +kernel
theorem d_method_3_code_15 : decode method_3_code 15 = .ok (.iload_n 0, 1) := by decide +kernel
theorem d_method_3_code_16 : decode method_3_code 16 = .ok (.iconst 1, 1) := by decide +kernel
theorem d_method_3_code_17 : decode method_3_code 17 = .ok (.if_icmp .ne 9, 3) := by decide +kernel
theorem d_method_3_code_20 : decode method_3_code 20 = .ok (.iload_n 1, 1) := by decide +kernel
theorem d_method_3_code_21 : decode method_3_code 21 = .ok (.i2c, 1) := by decide +kernel
theorem d_method_3_code_22 : decode method_3_code 22 = .ok (.invokestatic 43, 3) := by decide +kernel
theorem d_method_3_code_25 : decode method_3_code 25 = .ok (.areturn, 1) := by decide +kernel
theorem d_method_3_code_26 : decode method_3_code 26 = .ok (.new 27, 3) := by decide +kernel
theorem d_method_3_code_29 : decode method_3_code 29 = .ok (.dup, 1) := by decide +kernel
theorem d_method_3_code_30 : decode method_3_code 30 = .ok (.iconst 2, 1) := by decide +kernel
theorem d_method_3_code_31 : decode method_3_code 31 = .ok (.newarray .char, 2) := by decide +kernel
theorem d_method_3_code_33 : decode method_3_code 33 = .ok (.dup, 1) := by decide +kernel
theorem d_method_3_code_34 : decode method_3_code 34 = .ok (.iconst 0, 1) := by decide +kernel
theorem d_method_3_code_35 : decode method_3_code 35 = .ok (.iload_n 1, 1) := by decide +kernel
theorem d_method_3_code_36 : decode method_3_code 36 = .ok (.i2c, 1) := by decide +kernel
theorem d_method_3_code_37 : decode method_3_code 37 = .ok (.castore, 1) := by decide +kernel
theorem d_method_3_code_38 : decode method_3_code 38 = .ok (.dup, 1) := by decide +kernel
theorem d_method_3_code_39 : decode method_3_code 39 = .ok (.iconst 1, 1) := by decide +kernel
theorem d_method_3_code_4 : decode method_3_code 4 = .ok (.new 27, 3) := by decide +kernel
theorem d_method_3_code_40 : decode method_3_code 40 = .ok (.iload_n 2, 1) := by decide +kernel
theorem d_method_3_code_41 : decode method_3_code 41 = .ok (.i2c, 1) := by decide +kernel
theorem d_method_3_code_42 : decode method_3_code 42 = .ok (.castore, 1) := by decide +kernel
theorem d_method_3_code_43 : decode method_3_code 43 = .ok (.invokespecial 40, 3) := by decide +kernel
theorem d_method_3_code_46 : decode method_3_code 46 = .ok (.areturn, 1) := by decide +kernel
theorem d_method_3_code_7 : decode method_3_code 7 = .ok (.dup, 1) := by decide +kernel
theorem d_method_3_code_8 : decode method_3_code 8 = .ok (.iconst 0, 1) := by decide +kernel
theorem d_method_3_code_9 : decode method_3_code 9 = .ok (.newarray .char, 2) := by decide +kernel
theorem d_method_4_code_0 : decode method_4_code 0 = .ok (.iload_n 3, 1) := by decide +kernel
theorem d_method_4_code_1 : decode method_4_code 1 = .ok (.aload_n 0, 1) := by decide +kernel
theorem d_method_4_code_10 : decode method_4_code 10 = .ok (.iload_n 3, 1) := by decide +kernel
theorem d_method_4_code_11 : decode method_4_code 11 = .ok (.aload_n 1, 1) := by decide +kernel
theorem d_method_4_code_12 : decode method_4_code 12 = .ok (.invokevirtual 26, 3) := by decide +kernel
theorem d_method_4_code_15 : decode method_4_code 15 = .ok (.if_icmp .ge 13, 3) := by decide +kernel
theorem d_method_4_code_18 : decode method_4_code 18 = .ok (.aload_n 1, 1) := by decide +kernel
theorem d_method_4_code_19 : decode method_4_code 19 = .ok (.iload_n 3, 1) := by decide +kernel
theorem d_method_4_code_2 : decode method_4_code 2 = .ok (.invokevirtual 26, 3) := by decide +kernel
theorem d_method_4_code_20 : decode method_4_code 20 = .ok (.invokevirtual 47, 3) := by decide +kernel
theorem d_method_4_code_23 : decode method_4_code 23 = .ok (.istore 4, 2) := by decide +kernel
theorem d_method_4_code_25 : decode method_4_code 25 = .ok (.goto 32, 3) := by decide +kernel
theorem d_method_4_code_28 : decode method_4_code 28 = .ok (.iload_n 3, 1) := by decide +kernel
theorem d_method_4_code_29 : decode method_4_code 29 = .ok (.aload_n 1, 1) := by decide +kernel
theorem d_method_4_code_30 : decode method_4_code 30 = .ok (.invokevirtual 26, 3) := by decide +kernel
theorem d_method_4_code_33 : decode method_4_code 33 = .ok (.if_icmp .ne 10, 3) := by decide +kernel
theorem d_method_4_code_36 : decode method_4_code 36 = .ok (.bipush 46, 2) := by decide +kernel
theorem d_method_4_code_38 : decode method_4_code 38 = .ok (.istore 4, 2) := by decide +kernel
theorem d_method_4_code_40 : decode method_4_code 40 = .ok (.goto 17, 3) := by decide +kernel
theorem d_method_4_code_43 : decode method_4_code 43 = .ok (.aload_n 2, 1) := by decide +kernel
theorem d_method_4_code_44 : decode method_4_code 44 = .ok (.iload_n 3, 1) := by decide +kernel
theorem d_method_4_code_45 : decode method_4_code 45 = .ok (.aload_n 1, 1) := by decide +kernel
theorem d_method_4_code_46 : decode method_4_code 46 = .ok (.invokevirtual 26, 3) := by decide +kernel
theorem d_method_4_code_49 : decode method_4_code 49 = .ok (.isub, 1) := by decide +kernel
theorem d_method_4_code_5 : decode method_4_code 5 = .ok (.if_icmp .lt 5, 3) := by decide +kernel
theorem d_method_4_code_50 : decode method_4_code 50 = .ok (.iconst 1, 1) := by decide +kernel
theorem d_method_4_code_51 : decode method_4_code 51 = .ok (.isub, 1) := by decide +kernel
theorem d_method_4_code_52 : decode method_4_code 52 = .ok (.invokevirtual 47, 3) := by decide +kernel
theorem d_method_4_code_55 : decode method_4_code 55 = .ok (.istore 4, 2) := by decide +kernel
theorem d_method_4_code_57 : decode method_4_code 57 = .ok (.aload_n 0, 1) := by decide +kernel
theorem d_method_4_code_58 : decode method_4_code 58 = .ok (.iload_n 3, 1) := by decide +kernel
theorem d_method_4_code_59 : decode method_4_code 59 = .ok (.invokevirtual 47, 3) := by decide +kernel
theorem d_method_4_code_62 : decode method_4_code 62 = .ok (.iload 4, 2) := by decide +kernel
theorem d_method_4_code_64 : decode method_4_code 64 = .ok (.if_icmp .ne 7, 3) := by decide +kernel
theorem d_method_4_code_67 : decode method_4_code 67 = .ok (.iconst 1, 1) := by decide +kernel
theorem d_method_4_code_68 : decode method_4_code 68 = .ok (.goto 4, 3) := by decide +kernel
theorem d_method_4_code_72 : decode method_4_code 72 = .ok (.ireturn, 1) := by decide +kernel
theorem d_method_4_code_8 : decode method_4_code 8 = .ok (.iconst 1, 1) := by decide +kernel
theorem d_method_4_code_9 : decode method_4_code 9 = .ok (.ireturn, 1) := by decide +kernel
theorem d_prog_3_method_1_code_0 : decode prog_3_method_1_code 0 = .ok (.aload_n 0, 1) := by decide +kernel
theorem d_prog_3_method_1_code_1 : decode prog_3_method_1_code 1 = .ok (.aload_n 1, 1) := by decide +kernel
theorem d_prog_3_method_1_code_2 : decode prog_3_method_1_code 2 = .ok (.invokespecial 1, 3) := by decide +kernel
theorem d_prog_3_method_1_code_5 : decode prog_3_method_1_code 5 = .ok (.return_, 1) := by decide +kernel
theorem d_prog_3_method_2_code_0 : decode prog_3_method_2_code 0 = .ok (.new 7, 3) := by decide +kernel
theorem d_prog_3_method_2_code_11 : decode prog_3_method_2_code 11 = .ok (.aload_n 1, 1) := by decide +kernel
theorem d_prog_3_method_2_code_12 : decode prog_3_method_2_code 12 = .ok (.invokevirtual 14, 3) := by decide +kernel
theorem d_prog_3_method_2_code_15 : decode prog_3_method_2_code 15 = .ok (.ldc 18, 2) := by decide +kernel
theorem d_prog_3_method_2_code_17 : decode prog_3_method_2_code 17 = .ok (.invokevirtual 14, 3) := by decide +kernel
theorem d_prog_3_method_2_code_20 : decode prog_3_method_2_code 20 = .ok (.aload_n 0, 1) := by decide +kernel
theorem d_prog_3_method_2_code_21 : decode prog_3_method_2_code 21 = .ok (.invokevirtual 20, 3) := by decide +kernel
theorem d_prog_3_method_2_code_24 : decode prog_3_method_2_code 24 = .ok (.invokevirtual 14, 3) := by decide +kernel
theorem d_prog_3_method_2_code_27 : decode prog_3_method_2_code 27 = .ok (.invokevirtual 24, 3) := by decide +kernel
theorem d_prog_3_method_2_code_3 : decode prog_3_method_2_code 3 = .ok (.dup, 1) := by decide +kernel
theorem d_prog_3_method_2_code_30 : decode prog_3_method_2_code 30 = .ok (.invokespecial 27, 3) := by decide +kernel
theorem d_prog_3_method_2_code_33 : decode prog_3_method_2_code 33 = .ok (.areturn, 1) := by decide +kernel
theorem d_prog_3_method_2_code_4 : decode prog_3_method_2_code 4 = .ok (.new 9, 3) := by decide +kernel
theorem d_prog_3_method_2_code_7 : decode prog_3_method_2_code 7 = .ok (.dup, 1) := by decide +kernel
theorem d_prog_3_method_2_code_8 : decode prog_3_method_2_code 8 = .ok (.invokespecial 11, 3) := by decide +kernel
theorem lat0 : ∀ c ∈ ([] : List Int32), ¬ c < 0 ∧ ¬ (255 : Int32) < c := fun _ q => nomatch q
theorem latc {x : Int32} {cs : List Int32} (q : ¬ x < 0 ∧ ¬ (255 : Int32) < x) (r : ∀ c ∈ cs, ¬ c < 0 ∧ ¬ (255 : Int32) < c) : ∀ c ∈ x :: cs, ¬ c < 0 ∧ ¬ (255 : Int32) < c := fun c z => (List.mem_cons.mp z).elim (fun u => u ▸ q) (r c)
theorem eqv_if {cs ds : List Int32} {v : Option Value} (h : (v = some (.int 1) ∧ cs = ds) ∨ (v = some (.int 0) ∧ ¬ cs = ds)) : v = some (.int (if cs = ds then (1 : Int32) else 0)) := by
  rcases h with ⟨a, b⟩ | ⟨a, b⟩
  · rw [a, if_pos b]
  · rw [a, if_neg b]
theorem sw_words {a0 : Array Value} {Z : State} (hw : ∀ d ∈ tables_1, d.before a0 Z = true) : ∀ d ∈ StrChars.Road.words, d.before a0 Z = true := fun d hd => hw d ((by decide +kernel : ∀ d ∈ StrChars.Road.words, d ∈ tables_1) d hd)
theorem sw_wordsChN {a0 : Array Value} {Z : State} (hw : ∀ d ∈ tables_1, d.before a0 Z = true) : ∀ d ∈ StrChars.Road.wordsChN, d.before a0 Z = true := fun d hd => hw d ((by decide +kernel : ∀ d ∈ StrChars.Road.wordsChN, d ∈ tables_1) d hd)
theorem sw_wordsLen {a0 : Array Value} {Z : State} (hw : ∀ d ∈ tables_1, d.before a0 Z = true) : ∀ d ∈ StrChars.Road.wordsLen, d.before a0 Z = true := fun d hd => hw d ((by decide +kernel : ∀ d ∈ StrChars.Road.wordsLen, d ∈ tables_1) d hd)
def EL : List (String × Nat) := [("com/example/hallstatt/hallstatt/InvalidValueException", 18), ("java/lang/String", 7)]
theorem hEL_ {Z : State} {a0 : Array Value} (hw : ∀ d ∈ tables_1, d.before a0 Z = true) : EW Z a0 EL := (EW.cons (wd_174 hw) (by decide) (EW.cons (wd_34 hw) (by decide) EW.nil))
theorem hwS_ {Z : State} {a0 : Array Value} (hw : ∀ d ∈ tables_1, d.before a0 Z = true) : ∀ d ∈ Bundle.stringAtoms, d.before a0 Z = true := fun d hd => hw d ((by decide +kernel : ∀ d ∈ Bundle.stringAtoms, d ∈ tables_1) d hd)
def St (Z : State) (zc : Int32) (vfm : Value) (vus : Value) (vss : Value) : Prop := Sta Z Z.heap "java/lang/String" "COMPACT_STRINGS" "Z" (.int zc) ∧ ¬ zc = 0 ∧ Sta Z Z.heap "jdk/internal/util/Preconditions" "SIOOBE_FORMATTER" "Ljava/util/function/BiFunction;" vfm ∧ vfm.isRef = true ∧ Sta Z Z.heap "java/lang/Throwable" "UNASSIGNED_STACK" "[Ljava/lang/StackTraceElement;" vus ∧ vus.isRef = true ∧ Sta Z Z.heap "java/lang/Throwable" "SUPPRESSED_SENTINEL" "Ljava/util/List;" vss ∧ vss.isRef = true
theorem nar255 (x : Int32) : nar .char (x &&& (255 : Int32)) = x &&& (255 : Int32) := i2c_mask x
theorem lat255 (x : Int32) : ¬ (x &&& (255 : Int32)) < 0 ∧ ¬ (255 : Int32) < x &&& (255 : Int32) := by
  have h := c_mask x 255 8 (by decide) (by decide)
  have e1 : (255 : Int32).toInt = 255 := by decide
  have e2 : (0 : Int32).toInt = 0 := by decide
  rw [Int32.lt_iff_toInt_lt, Int32.lt_iff_toInt_lt, h]
  omega
theorem latI {x : Int32} (h : ¬ x < 0 ∧ ¬ (255 : Int32) < x) : 0 ≤ x.toInt ∧ x.toInt ≤ 255 := by
  have e1 : (255 : Int32).toInt = 255 := by decide
  have e2 : (0 : Int32).toInt = 0 := by decide
  rw [Int32.lt_iff_toInt_lt, Int32.lt_iff_toInt_lt] at h
  omega
theorem nar_lat {x : Int32} (h : ¬ x < 0 ∧ ¬ (255 : Int32) < x) : nar .char x = x := by
  have q := latI h
  have r := c_i2c x
  have s := rng32 x
  apply Int32.toInt_inj.mp
  show x.toUInt32.toUInt16.toUInt32.toInt32.toInt = x.toInt
  omega
theorem i8_inj {x y : Int32} (hx : ¬ x < 0 ∧ ¬ (255 : Int32) < x) (hy : ¬ y < 0 ∧ ¬ (255 : Int32) < y) (e : x.toInt8.toInt32 = y.toInt8.toInt32) : x = y := by
  have a := latI hx
  have b := latI hy
  have r := c_i2b x
  have s := c_i2b y
  rw [e] at r
  apply Int32.toInt_inj.mp
  omega
theorem bytes_getD (cs : List Int32) (i : Nat) : ((cs.map fun c => c.toInt8.toInt32).map Value.int).getD i (.int (0 : Int32)) = .int (cs.getD i 0).toInt8.toInt32 := by
  rw [List.map_map, List.getD_eq_getElem?_getD, List.getD_eq_getElem?_getD, List.getElem?_map]
  cases cs[i]? <;> rfl
theorem ofNat_toInt {k : Nat} (h : k ≤ 100000) : (Int32.ofNat k).toInt = k := Int32.toInt_ofNat_small (by omega)
theorem lt_ofNat {k i : Nat} {j : Int32} (h : k ≤ 100000) (e : j.toInt = i) (q : i < k) : ¬ j < 0 ∧ j < Int32.ofNat k := by
  rw [Int32.lt_iff_toInt_lt, Int32.lt_iff_toInt_lt, ofNat_toInt h, e]
  have e2 : (0 : Int32).toInt = 0 := by decide
  omega
theorem sub_lt0 {k n : Nat} {j : Int32} (h : k ≤ 100000) (e : j.toInt = n) (q : n ≤ 100000) : (Int32.ofNat k - j) < 0 ↔ k < n := by
  have a := c_isub (Int32.ofNat k) j
  have b := rng32 (Int32.ofNat k - j)
  rw [ofNat_toInt h, e] at a
  have e2 : (0 : Int32).toInt = 0 := by decide
  rw [Int32.lt_iff_toInt_lt, e2]
  omega

theorem thr_ch {a0 : Array Value} {Z : State} (hw : ∀ d ∈ tables_1, d.before a0 Z = true) : ∀ w ∈ thrW "com/example/hallstatt/hallstatt/InvalidValueException", w.before a0 Z = true := fun d hd => hw d ((by decide +kernel : ∀ d ∈ thrW "com/example/hallstatt/hallstatt/InvalidValueException", d ∈ tables_1) d hd)
--@C thS
def Q_thS (Z : State) (zc : Int32) (vfm : Value) (vus : Value) (vss : Value) (a1 : Addr) (m1 : Addr) (h0 : Heap) (n0 : Nat) (v : Option Value) (h : Heap) (L : List Loc) : Prop := v = none ∧ Fr n0 L ∧ Keep h0 h [a1] ∧ Exa Z h a1 "com/example/hallstatt/hallstatt/InvalidValueException" ∧ Fld Z h a1 "java/lang/Throwable" "detailMessage" "Ljava/lang/String;" (.ref m1)
set_option maxRecDepth 65536 in
set_option maxHeartbeats 40000000 in
theorem rm_thS (l : Launch) (Z : State) (a0 : Array Value) (hw : ∀ d ∈ tables_1, d.before a0 Z = true) (zc : Int32) (vfm : Value) (vus : Value) (vss : Value) (a1 : Addr) (m1 : Addr) (h0 : Heap) (n0 : Nat) (Z0 : n0 ≤ h0.size) (E_a1 : Exa Z h0 a1 "com/example/hallstatt/hallstatt/InvalidValueException") (U_a1 : Unt h0 a1) (g_a1 : n0 ≤ a1) (hl : (l.stackTraces = true)) (F_cause : Fld Z h0 a1 "java/lang/Throwable" "cause" "Ljava/lang/Throwable;" .null) (F_stackTrace : Fld Z h0 a1 "java/lang/Throwable" "stackTrace" "[Ljava/lang/StackTraceElement;" .null) (F_suppressedExceptions : Fld Z h0 a1 "java/lang/Throwable" "suppressedExceptions" "Ljava/util/List;" .null) (F_backtrace : Fld Z h0 a1 "java/lang/Throwable" "backtrace" "Ljava/lang/Object;" .null) (F_detailMessage : Fld Z h0 a1 "java/lang/Throwable" "detailMessage" "Ljava/lang/String;" .null) (hSt : St Z zc vfm vus vss) (hO : Old Z n0 h0) :
    CK l Z EL ({ cls := "java/lang/Throwable", name := "<init>", desc := "(Ljava/lang/String;)V" } : Jvm.MethodName) [(Jvm.Cond.code ({ cls := "java/lang/Throwable", name := "<init>", desc := "(Ljava/lang/String;)V" } : Jvm.MethodName) jdk_78_method_2_code (2 : Nat) (Option.none : Option Jvm.ClassFile.FieldType))] ({ frames := 3, cells := 1, slots := 2752, locals := 42 } : Room) #[(.ref a1), (.ref m1)] h0 (Q_thS Z zc vfm vus vss a1 m1 h0 n0) := by
  refine CK.of (L0 := #[vR a1, vR m1]) (plainFor_of_name pn_0) (fun m => by first | (simp [entryFrame, mkF, argsToLocals, Value.category]; done) | rfl) ?_
  intro p e s m below meth c s₁ hx hby hml hret hlk hZ hown hnm X0 e0 hS0 hk0 CV0 hh0 hTK hFK
  have hEL := hEL_ (a0 := a0) hw
  have hwS := hwS_ hw
  have N0 := Fr.nil n0
  have KP0 := Keep.refl h0 [a1]
  have hSt_ := hSt
  obtain ⟨S_cs, n_cs, S_fm, r_fm, S_us, r_us, S_ss, r_ss⟩ := hSt_
  have h_vus := r_us
  have h_vss := r_ss
  show Go p e below _ (s₁.setTop (mkF m 0 #[vR a1, vR m1] []))
  refine Go.step (fun _ k => XS.aloadN X0.here hx rfl (hb hby d_jdk_78_method_2_code_0) rfl rfl k) ?_
  show Go p e below _ (s₁.setTop (mkF m 1 #[vR a1, vR m1] [(.ref a1)]))
  obtain ⟨T_1, X_1, e_1, st_1⟩ := initO X0 hx hZ hown (wd_66 hw) (wd_16 hw) (wd_17 hw) e0 (g := (mkF m 1 #[vR a1, vR m1] [(.ref a1)])) rfl (by rw [hml]; rfl) rfl (hb hby d_jdk_78_method_2_code_1) (by decide) (W := 0) (by show 2 * 0 + _ ≤ _; exact Nat.le_of_eq rfl) (by decide)
  refine Go.step st_1 ?_
  show Go p e below _ (T_1.setTop (mkF m 4 #[vR a1, vR m1] []))
  refine Go.step (fun _ k => XS.aloadN X_1.here hx rfl (hb hby d_jdk_78_method_2_code_4) rfl rfl k) ?_
  refine Go.step (fun _ k => XS.aloadN X_1.here hx rfl (hb hby d_jdk_78_method_2_code_5) rfl rfl k) ?_
  show Go p e below _ (T_1.setTop (mkF m 6 #[vR a1, vR m1] [(.ref a1), (.ref a1)]))
  obtain ⟨T_2, h_2, X_2, e_2, W_2, st_2⟩ := putF X_1 hx hZ hown (host := "") (Or.inl (wd_67 hw)) Via.refl e_1 F_cause E_a1 (Or.inl (wd_68 hw)) (wd_38 hw) (ty := (.object "java/lang/Throwable")) pf_0 rfl rfl (g := (mkF m 6 #[vR a1, vR m1] [(.ref a1), (.ref a1)])) rfl rfl (hb hby d_jdk_78_method_2_code_6)
  refine Go.step st_2 ?_
  have N_2 := Fr.snoc X_2 N0 g_a1
  have C_2 := CHr.wr W_2 (Safe.exa hZ.alike E_a1 (by decide) (by decide)) CV0
  have CR_2 := CHr.trans (CHr.refl CV0) C_2
  have le_2 : h0.size ≤ h_2.size := Nat.le_of_eq W_2.size.symm
  have KP_2 := KP0.wr W_2 (Or.inl (List.mem_of_getElem? (i := 0) rfl))
  have O_2 := hO.wr W_2 g_a1
  have F_2 : Fld Z h_2 a1 "java/lang/Throwable" "cause" "Ljava/lang/Throwable;" (.ref a1) := F_cause.same W_2
  show Go p e below _ (T_2.setTop (mkF m 9 #[vR a1, vR m1] []))
  refine Go.step (fun _ k => XS.aloadN X_2.here hx rfl (hb hby d_jdk_78_method_2_code_9) rfl rfl k) ?_
  show Go p e below _ (T_2.setTop (mkF m 10 #[vR a1, vR m1] [(.ref a1)]))
  obtain ⟨T_3, X_3, e_3, st_3⟩ := getS2 X_2 hx hZ hown (host := "") (Or.inl (wd_69 hw)) Via.refl e_2 (S_us.ext O_2.2) (g := (mkF m 10 #[vR a1, vR m1] [(.ref a1)])) rfl (hb hby d_jdk_78_method_2_code_10)
  refine Go.step st_3 ?_
  show Go p e below _ (T_3.setTop (mkF m 13 #[vR a1, vR m1] [vus, (.ref a1)]))
  have f4 : Exa Z h_2 a1 "com/example/hallstatt/hallstatt/InvalidValueException" := (E_a1.wr W_2)
  have f5 : Fld Z h_2 a1 "java/lang/Throwable" "stackTrace" "[Ljava/lang/StackTraceElement;" .null := (F_stackTrace.other W_2 (Or.inr (sn_0 hw)))
  obtain ⟨T_6, h_6, X_6, e_6, W_6, st_6⟩ := putF X_3 hx hZ hown (host := "") (Or.inl (wd_70 hw)) Via.refl e_3 f5 f4 (Or.inl (wd_71 hw)) (wd_38 hw) (ty := (.array (.object "java/lang/StackTraceElement"))) pf_1 (own_narrow_ref h_vus) (own_fits_refA h_vus) (g := (mkF m 13 #[vR a1, vR m1] [vus, (.ref a1)])) rfl rfl (hb hby d_jdk_78_method_2_code_13)
  refine Go.step st_6 ?_
  have N_6 := Fr.snoc X_6 N_2 g_a1
  have C_6 := CHr.wr W_6 (Safe.exa hZ.alike f4 (by decide) (by decide)) C_2.1
  have CR_6 := CHr.trans CR_2 C_6
  have le_6 : h_2.size ≤ h_6.size := Nat.le_of_eq W_6.size.symm
  have KP_6 := KP_2.wr W_6 (Or.inl (List.mem_of_getElem? (i := 0) rfl))
  have O_6 := O_2.wr W_6 g_a1
  have F_6 : Fld Z h_6 a1 "java/lang/Throwable" "stackTrace" "[Ljava/lang/StackTraceElement;" vus := f5.same W_6
  show Go p e below _ (T_6.setTop (mkF m 16 #[vR a1, vR m1] []))
  refine Go.step (fun _ k => XS.aloadN X_6.here hx rfl (hb hby d_jdk_78_method_2_code_16) rfl rfl k) ?_
  show Go p e below _ (T_6.setTop (mkF m 17 #[vR a1, vR m1] [(.ref a1)]))
  obtain ⟨T_7, X_7, e_7, st_7⟩ := getS2 X_6 hx hZ hown (host := "") (Or.inl (wd_72 hw)) Via.refl e_6 (S_ss.ext O_6.2) (g := (mkF m 17 #[vR a1, vR m1] [(.ref a1)])) rfl (hb hby d_jdk_78_method_2_code_17)
  refine Go.step st_7 ?_
  show Go p e below _ (T_7.setTop (mkF m 20 #[vR a1, vR m1] [vss, (.ref a1)]))
  have f8 : Exa Z h_6 a1 "com/example/hallstatt/hallstatt/InvalidValueException" := (f4.wr W_6)
  have f9 : Fld Z h_6 a1 "java/lang/Throwable" "suppressedExceptions" "Ljava/util/List;" .null := ((F_suppressedExceptions.other W_2 (Or.inr (sn_1 hw))).other W_6 (Or.inr (sn_2 hw)))
  obtain ⟨T_10, h_10, X_10, e_10, W_10, st_10⟩ := putF X_7 hx hZ hown (host := "") (Or.inl (wd_73 hw)) Via.refl e_7 f9 f8 (Or.inl (wd_74 hw)) (wd_38 hw) (ty := (.object "java/util/List")) pf_2 (own_narrow_ref h_vss) (own_fits_ref h_vss) (g := (mkF m 20 #[vR a1, vR m1] [vss, (.ref a1)])) rfl rfl (hb hby d_jdk_78_method_2_code_20)
  refine Go.step st_10 ?_
  have N_10 := Fr.snoc X_10 N_6 g_a1
  have C_10 := CHr.wr W_10 (Safe.exa hZ.alike f8 (by decide) (by decide)) C_6.1
  have CR_10 := CHr.trans CR_6 C_10
  have le_10 : h_6.size ≤ h_10.size := Nat.le_of_eq W_10.size.symm
  have KP_10 := KP_6.wr W_10 (Or.inl (List.mem_of_getElem? (i := 0) rfl))
  have O_10 := O_6.wr W_10 g_a1
  have F_10 : Fld Z h_10 a1 "java/lang/Throwable" "suppressedExceptions" "Ljava/util/List;" vss := f9.same W_10
  show Go p e below _ (T_10.setTop (mkF m 23 #[vR a1, vR m1] []))
  refine Go.step (fun _ k => XS.aloadN X_10.here hx rfl (hb hby d_jdk_78_method_2_code_23) rfl rfl k) ?_
  show Go p e below _ (T_10.setTop (mkF m 24 #[vR a1, vR m1] [(.ref a1)]))
  have f12 : Exa Z h_10 a1 "com/example/hallstatt/hallstatt/InvalidValueException" := (f8.wr W_10)
  have f13 : Unt h_10 a1 := (Unt.wr W_10 (Unt.wr W_6 (Unt.wr W_2 U_a1)))
  have f14 : Fld Z h_10 a1 "java/lang/Throwable" "stackTrace" "[Ljava/lang/StackTraceElement;" vus := (F_6.other W_10 (Or.inr (sn_3 hw)))
  have f15 : Fld Z h_10 a1 "java/lang/Throwable" "backtrace" "Ljava/lang/Object;" .null := (((F_backtrace.other W_2 (Or.inr (sn_4 hw))).other W_6 (Or.inr (sn_5 hw))).other W_10 (Or.inr (sn_6 hw)))
  have f16 : Fld Z h_10 a1 "java/lang/Throwable" "detailMessage" "Ljava/lang/String;" .null := (((F_detailMessage.other W_2 (Or.inr (sn_7 hw))).other W_6 (Or.inr (sn_8 hw))).other W_10 (Or.inr (sn_9 hw)))
  obtain ⟨T_11, h_11, L_11, X_11, e_11, hb_11, K_11, Ea_11, Fm_11, st_11⟩ := goFill (s := s.setVm s.vm) X_10 hx hl hZ hown (thr_ch hw) (wd_38 hw) (show ThS Z s.heap from by rw [hh0]; exact ths_old hO) (Vm.MethodsKnown.alikeC hZ.alike hTK) (Vm.FramesKnown.alikeC hZ.alike hFK) e_10 f12 f13 (u := vus) h_vus f14 (S_us.ext O_10.2) f15 f16 (show Keep s.heap _ _ from by rw [hh0]; exact KP_10) (show _ = s.heap.size from by rw [hh0]; exact (W_10.size.trans (W_6.size.trans (W_2.size)))) (by intro x q; simp only [List.mem_append, List.mem_cons, List.not_mem_nil, or_false, false_or] at q; rcases q with (rfl | rfl) | rfl <;> rfl) (g := (mkF m 24 #[vR a1, vR m1] [(.ref a1)])) rfl (by rw [hml]; rfl) (rest := []) rfl (hb hby d_jdk_78_method_2_code_24) (Wd := 0) (by show 2 * 0 + _ ≤ _; exact Nat.le_of_eq rfl) (by decide) (by decide) (by decide) (by decide)
  refine Go.step st_11 ?_
  have N_11 := Fr.app N_10 (fun x q => by rw [hb_11 x q]; exact g_a1)
  have C_11 := CHr.keep K_11 (sfS (Safe.exa hZ.alike f12 (by decide) (by decide)) sf0) C_10.1
  have CR_11 := CHr.trans CR_10 C_11
  have le_11 : h_10.size ≤ h_11.size := K_11.1
  have KP_11 := KP_10.trans K_11 (allS (Or.inl (List.mem_of_getElem? (i := 0) rfl)) all0)
  have O_11 := O_10.keep K_11 (allS g_a1 all0)
  show Go p e below _ (T_11.setTop (mkF m 27 #[vR a1, vR m1] [(.ref a1)]))
  refine Go.step (fun _ k => XS.pop X_11.here hx rfl (hb hby d_jdk_78_method_2_code_27) rfl rfl k) ?_
  show Go p e below _ (T_11.setTop (mkF m 28 #[vR a1, vR m1] []))
  refine Go.step (fun _ k => XS.aloadN X_11.here hx rfl (hb hby d_jdk_78_method_2_code_28) rfl rfl k) ?_
  refine Go.step (fun _ k => XS.aloadN X_11.here hx rfl (hb hby d_jdk_78_method_2_code_29) rfl rfl k) ?_
  show Go p e below _ (T_11.setTop (mkF m 30 #[vR a1, vR m1] [(.ref m1), (.ref a1)]))
  obtain ⟨T_17, h_17, X_17, e_17, W_17, st_17⟩ := putF X_11 hx hZ hown (host := "") (Or.inl (wd_102 hw)) Via.refl e_11 Fm_11 Ea_11 (Or.inl (wd_98 hw)) (wd_38 hw) (ty := (.object "java/lang/String")) pf_4 rfl rfl (g := (mkF m 30 #[vR a1, vR m1] [(.ref m1), (.ref a1)])) rfl rfl (hb hby d_jdk_78_method_2_code_30)
  refine Go.step st_17 ?_
  have N_17 := Fr.snoc X_17 N_11 g_a1
  have C_17 := CHr.wr W_17 (Safe.exa hZ.alike Ea_11 (by decide) (by decide)) C_11.1
  have CR_17 := CHr.trans CR_11 C_17
  have le_17 : h_11.size ≤ h_17.size := Nat.le_of_eq W_17.size.symm
  have KP_17 := KP_11.wr W_17 (Or.inl (List.mem_of_getElem? (i := 0) rfl))
  have O_17 := O_11.wr W_17 g_a1
  have F_17 : Fld Z h_17 a1 "java/lang/Throwable" "detailMessage" "Ljava/lang/String;" (.ref m1) := Fm_11.same W_17
  show Go p e below _ (T_17.setTop (mkF m 33 #[vR a1, vR m1] []))
  have f18 : Exa Z h_17 a1 "com/example/hallstatt/hallstatt/InvalidValueException" := (Ea_11.wr W_17)
  exact Go.ret0W X_17 e_17 hS0 (Nat.le_trans hk0 (Nat.le_trans le_2 (Nat.le_trans le_6 (Nat.le_trans le_10 (Nat.le_trans le_11 le_17))))) hZ hEL hh0 CR_17 hx hlk hret (hb hby d_jdk_78_method_2_code_33) (by decide) (by decide) (by rw [e_17]; exact ⟨rfl, N_17, KP_17, f18, F_17⟩)
--@E
--@C exS
def Q_exS (Z : State) (zc : Int32) (vfm : Value) (vus : Value) (vss : Value) (a1 : Addr) (m1 : Addr) (h0 : Heap) (n0 : Nat) (v : Option Value) (h : Heap) (L : List Loc) : Prop := v = none ∧ Fr n0 L ∧ Keep h0 h [a1] ∧ Exa Z h a1 "com/example/hallstatt/hallstatt/InvalidValueException" ∧ Fld Z h a1 "java/lang/Throwable" "detailMessage" "Ljava/lang/String;" (.ref m1)
set_option maxRecDepth 65536 in
set_option maxHeartbeats 40000000 in
theorem rm_exS (l : Launch) (Z : State) (a0 : Array Value) (hw : ∀ d ∈ tables_1, d.before a0 Z = true) (zc : Int32) (vfm : Value) (vus : Value) (vss : Value) (a1 : Addr) (m1 : Addr) (h0 : Heap) (n0 : Nat) (Z0 : n0 ≤ h0.size) (E_a1 : Exa Z h0 a1 "com/example/hallstatt/hallstatt/InvalidValueException") (U_a1 : Unt h0 a1) (g_a1 : n0 ≤ a1) (hl : (l.stackTraces = true)) (F_cause : Fld Z h0 a1 "java/lang/Throwable" "cause" "Ljava/lang/Throwable;" .null) (F_stackTrace : Fld Z h0 a1 "java/lang/Throwable" "stackTrace" "[Ljava/lang/StackTraceElement;" .null) (F_suppressedExceptions : Fld Z h0 a1 "java/lang/Throwable" "suppressedExceptions" "Ljava/util/List;" .null) (F_backtrace : Fld Z h0 a1 "java/lang/Throwable" "backtrace" "Ljava/lang/Object;" .null) (F_detailMessage : Fld Z h0 a1 "java/lang/Throwable" "detailMessage" "Ljava/lang/String;" .null) (hSt : St Z zc vfm vus vss) (hO : Old Z n0 h0) :
    CK l Z EL ({ cls := "java/lang/Exception", name := "<init>", desc := "(Ljava/lang/String;)V" } : Jvm.MethodName) [(Jvm.Cond.code ({ cls := "java/lang/Exception", name := "<init>", desc := "(Ljava/lang/String;)V" } : Jvm.MethodName) jdk_59_method_2_code (2 : Nat) (Option.none : Option Jvm.ClassFile.FieldType))] ({ frames := 4, cells := 1, slots := 2752, locals := 55 } : Room) #[(.ref a1), (.ref m1)] h0 (Q_exS Z zc vfm vus vss a1 m1 h0 n0) := by
  refine CK.of (L0 := #[vR a1, vR m1]) (plainFor_of_name pn_1) (fun m => by first | (simp [entryFrame, mkF, argsToLocals, Value.category]; done) | rfl) ?_
  intro p e s m below meth c s₁ hx hby hml hret hlk hZ hown hnm X0 e0 hS0 hk0 CV0 hh0 hTK hFK
  have hEL := hEL_ (a0 := a0) hw
  have hwS := hwS_ hw
  have N0 := Fr.nil n0
  have KP0 := Keep.refl h0 [a1]
  have hSt_ := hSt
  obtain ⟨S_cs, n_cs, S_fm, r_fm, S_us, r_us, S_ss, r_ss⟩ := hSt_
  have h_vus := r_us
  have h_vss := r_ss
  show Go p e below _ (s₁.setTop (mkF m 0 #[vR a1, vR m1] []))
  refine Go.step (fun _ k => XS.aloadN X0.here hx rfl (hb hby d_jdk_59_method_2_code_0) rfl rfl k) ?_
  refine Go.step (fun _ k => XS.aloadN X0.here hx rfl (hb hby d_jdk_59_method_2_code_1) rfl rfl k) ?_
  show Go p e below _ (s₁.setTop (mkF m 2 #[vR a1, vR m1] [(.ref m1), (.ref a1)]))
  obtain ⟨v_19, T_19, L_19, X_19, hQ_19, hS_19, hZ_19, hown_19, C_19, st_19⟩ := goCW X0 hx hZ (y := Y_0) hown hS0 hk0 rfl (wd_60 hw) (wd_61 hw) (wd_65 hw) (by decide) (backOfSKH (W := 0) (rm_thS l Z a0 hw zc vfm vus vss (a1) (m1) h0 n0 (Nat.le_trans Z0 KP0.1) E_a1 U_a1 g_a1 hl F_cause F_stackTrace F_suppressedExceptions F_backtrace F_detailMessage hSt hO) hZ (wd_65 hw) (wd_64 hw) (by decide) (by decide) hEL CV0 (Vm.MethodsKnown.alikeC hZ.alike hTK) (Vm.FramesKnown.alikeC hZ.alike hFK)) e0 (g := (mkF m 2 #[vR a1, vR m1] [(.ref m1), (.ref a1)])) rfl (by rw [hml]; rfl) (a := a1) (argsL := [(.ref m1)]) (rest := []) rfl (lenOf pd_0 rfl) rfl (by show 2 * 0 + _ ≤ _; exact Nat.le_of_eq rfl) (hb hby d_jdk_59_method_2_code_2) (by decide) (by decide)
  obtain ⟨rfl, Nq_19, K_19, u0_19, u1_19⟩ := hQ_19
  have N_19 := Fr.app N0 Nq_19
  have CR_19 := CHr.trans (CHr.refl CV0) C_19
  have le_19 : h0.size ≤ T_19.heap.size := K_19.1
  have KP_19 := KP0.trans K_19 (allS (Or.inl (List.mem_of_getElem? (i := 0) rfl)) all0)
  have O_19 := hO.keep K_19 (allS g_a1 all0)
  refine Go.step st_19 ?_
  show Go p e below _ (T_19.setTop (mkF m 5 #[vR a1, vR m1] []))
  exact Go.ret0W X_19 rfl hS_19 (Nat.le_refl _) hZ_19 hEL hh0 CR_19 hx hlk hret (hb hby d_jdk_59_method_2_code_5) (by decide) (by decide) (by exact ⟨rfl, N_19, KP_19, u0_19, u1_19⟩)
--@E
--@C reS
def Q_reS (Z : State) (zc : Int32) (vfm : Value) (vus : Value) (vss : Value) (a1 : Addr) (m1 : Addr) (h0 : Heap) (n0 : Nat) (v : Option Value) (h : Heap) (L : List Loc) : Prop := v = none ∧ Fr n0 L ∧ Keep h0 h [a1] ∧ Exa Z h a1 "com/example/hallstatt/hallstatt/InvalidValueException" ∧ Fld Z h a1 "java/lang/Throwable" "detailMessage" "Ljava/lang/String;" (.ref m1)
set_option maxRecDepth 65536 in
set_option maxHeartbeats 40000000 in
theorem rm_reS (l : Launch) (Z : State) (a0 : Array Value) (hw : ∀ d ∈ tables_1, d.before a0 Z = true) (zc : Int32) (vfm : Value) (vus : Value) (vss : Value) (a1 : Addr) (m1 : Addr) (h0 : Heap) (n0 : Nat) (Z0 : n0 ≤ h0.size) (E_a1 : Exa Z h0 a1 "com/example/hallstatt/hallstatt/InvalidValueException") (U_a1 : Unt h0 a1) (g_a1 : n0 ≤ a1) (hl : (l.stackTraces = true)) (F_cause : Fld Z h0 a1 "java/lang/Throwable" "cause" "Ljava/lang/Throwable;" .null) (F_stackTrace : Fld Z h0 a1 "java/lang/Throwable" "stackTrace" "[Ljava/lang/StackTraceElement;" .null) (F_suppressedExceptions : Fld Z h0 a1 "java/lang/Throwable" "suppressedExceptions" "Ljava/util/List;" .null) (F_backtrace : Fld Z h0 a1 "java/lang/Throwable" "backtrace" "Ljava/lang/Object;" .null) (F_detailMessage : Fld Z h0 a1 "java/lang/Throwable" "detailMessage" "Ljava/lang/String;" .null) (hSt : St Z zc vfm vus vss) (hO : Old Z n0 h0) :
    CK l Z EL ({ cls := "java/lang/RuntimeException", name := "<init>", desc := "(Ljava/lang/String;)V" } : Jvm.MethodName) [(Jvm.Cond.code ({ cls := "java/lang/RuntimeException", name := "<init>", desc := "(Ljava/lang/String;)V" } : Jvm.MethodName) jdk_58_method_2_code (2 : Nat) (Option.none : Option Jvm.ClassFile.FieldType))] ({ frames := 5, cells := 1, slots := 2752, locals := 68 } : Room) #[(.ref a1), (.ref m1)] h0 (Q_reS Z zc vfm vus vss a1 m1 h0 n0) := by
  refine CK.of (L0 := #[vR a1, vR m1]) (plainFor_of_name pn_2) (fun m => by first | (simp [entryFrame, mkF, argsToLocals, Value.category]; done) | rfl) ?_
  intro p e s m below meth c s₁ hx hby hml hret hlk hZ hown hnm X0 e0 hS0 hk0 CV0 hh0 hTK hFK
  have hEL := hEL_ (a0 := a0) hw
  have hwS := hwS_ hw
  have N0 := Fr.nil n0
  have KP0 := Keep.refl h0 [a1]
  have hSt_ := hSt
  obtain ⟨S_cs, n_cs, S_fm, r_fm, S_us, r_us, S_ss, r_ss⟩ := hSt_
  have h_vus := r_us
  have h_vss := r_ss
  show Go p e below _ (s₁.setTop (mkF m 0 #[vR a1, vR m1] []))
  refine Go.step (fun _ k => XS.aloadN X0.here hx rfl (hb hby d_jdk_58_method_2_code_0) rfl rfl k) ?_
  refine Go.step (fun _ k => XS.aloadN X0.here hx rfl (hb hby d_jdk_58_method_2_code_1) rfl rfl k) ?_
  show Go p e below _ (s₁.setTop (mkF m 2 #[vR a1, vR m1] [(.ref m1), (.ref a1)]))
  obtain ⟨v_20, T_20, L_20, X_20, hQ_20, hS_20, hZ_20, hown_20, C_20, st_20⟩ := goCW X0 hx hZ (y := Y_1) hown hS0 hk0 rfl (wd_54 hw) (wd_55 hw) (wd_59 hw) (by decide) (backOfSKH (W := 0) (rm_exS l Z a0 hw zc vfm vus vss (a1) (m1) h0 n0 (Nat.le_trans Z0 KP0.1) E_a1 U_a1 g_a1 hl F_cause F_stackTrace F_suppressedExceptions F_backtrace F_detailMessage hSt hO) hZ (wd_59 hw) (wd_58 hw) (by decide) (by decide) hEL CV0 (Vm.MethodsKnown.alikeC hZ.alike hTK) (Vm.FramesKnown.alikeC hZ.alike hFK)) e0 (g := (mkF m 2 #[vR a1, vR m1] [(.ref m1), (.ref a1)])) rfl (by rw [hml]; rfl) (a := a1) (argsL := [(.ref m1)]) (rest := []) rfl (lenOf pd_0 rfl) rfl (by show 2 * 0 + _ ≤ _; exact Nat.le_of_eq rfl) (hb hby d_jdk_58_method_2_code_2) (by decide) (by decide)
  obtain ⟨rfl, Nq_20, K_20, u0_20, u1_20⟩ := hQ_20
  have N_20 := Fr.app N0 Nq_20
  have CR_20 := CHr.trans (CHr.refl CV0) C_20
  have le_20 : h0.size ≤ T_20.heap.size := K_20.1
  have KP_20 := KP0.trans K_20 (allS (Or.inl (List.mem_of_getElem? (i := 0) rfl)) all0)
  have O_20 := hO.keep K_20 (allS g_a1 all0)
  refine Go.step st_20 ?_
  show Go p e below _ (T_20.setTop (mkF m 5 #[vR a1, vR m1] []))
  exact Go.ret0W X_20 rfl hS_20 (Nat.le_refl _) hZ_20 hEL hh0 CR_20 hx hlk hret (hb hby d_jdk_58_method_2_code_5) (by decide) (by decide) (by exact ⟨rfl, N_20, KP_20, u0_20, u1_20⟩)
--@E
--@C iaS
def Q_iaS (Z : State) (zc : Int32) (vfm : Value) (vus : Value) (vss : Value) (a1 : Addr) (m1 : Addr) (h0 : Heap) (n0 : Nat) (v : Option Value) (h : Heap) (L : List Loc) : Prop := v = none ∧ Fr n0 L ∧ Keep h0 h [a1] ∧ Exa Z h a1 "com/example/hallstatt/hallstatt/InvalidValueException" ∧ Fld Z h a1 "java/lang/Throwable" "detailMessage" "Ljava/lang/String;" (.ref m1)
set_option maxRecDepth 65536 in
set_option maxHeartbeats 40000000 in
theorem rm_iaS (l : Launch) (Z : State) (a0 : Array Value) (hw : ∀ d ∈ tables_1, d.before a0 Z = true) (zc : Int32) (vfm : Value) (vus : Value) (vss : Value) (a1 : Addr) (m1 : Addr) (h0 : Heap) (n0 : Nat) (Z0 : n0 ≤ h0.size) (E_a1 : Exa Z h0 a1 "com/example/hallstatt/hallstatt/InvalidValueException") (U_a1 : Unt h0 a1) (g_a1 : n0 ≤ a1) (hl : (l.stackTraces = true)) (F_cause : Fld Z h0 a1 "java/lang/Throwable" "cause" "Ljava/lang/Throwable;" .null) (F_stackTrace : Fld Z h0 a1 "java/lang/Throwable" "stackTrace" "[Ljava/lang/StackTraceElement;" .null) (F_suppressedExceptions : Fld Z h0 a1 "java/lang/Throwable" "suppressedExceptions" "Ljava/util/List;" .null) (F_backtrace : Fld Z h0 a1 "java/lang/Throwable" "backtrace" "Ljava/lang/Object;" .null) (F_detailMessage : Fld Z h0 a1 "java/lang/Throwable" "detailMessage" "Ljava/lang/String;" .null) (hSt : St Z zc vfm vus vss) (hO : Old Z n0 h0) :
    CK l Z EL ({ cls := "java/lang/IllegalArgumentException", name := "<init>", desc := "(Ljava/lang/String;)V" } : Jvm.MethodName) [(Jvm.Cond.code ({ cls := "java/lang/IllegalArgumentException", name := "<init>", desc := "(Ljava/lang/String;)V" } : Jvm.MethodName) jdk_57_method_2_code (2 : Nat) (Option.none : Option Jvm.ClassFile.FieldType))] ({ frames := 6, cells := 1, slots := 2752, locals := 81 } : Room) #[(.ref a1), (.ref m1)] h0 (Q_iaS Z zc vfm vus vss a1 m1 h0 n0) := by
  refine CK.of (L0 := #[vR a1, vR m1]) (plainFor_of_name pn_3) (fun m => by first | (simp [entryFrame, mkF, argsToLocals, Value.category]; done) | rfl) ?_
  intro p e s m below meth c s₁ hx hby hml hret hlk hZ hown hnm X0 e0 hS0 hk0 CV0 hh0 hTK hFK
  have hEL := hEL_ (a0 := a0) hw
  have hwS := hwS_ hw
  have N0 := Fr.nil n0
  have KP0 := Keep.refl h0 [a1]
  have hSt_ := hSt
  obtain ⟨S_cs, n_cs, S_fm, r_fm, S_us, r_us, S_ss, r_ss⟩ := hSt_
  have h_vus := r_us
  have h_vss := r_ss
  show Go p e below _ (s₁.setTop (mkF m 0 #[vR a1, vR m1] []))
  refine Go.step (fun _ k => XS.aloadN X0.here hx rfl (hb hby d_jdk_57_method_2_code_0) rfl rfl k) ?_
  refine Go.step (fun _ k => XS.aloadN X0.here hx rfl (hb hby d_jdk_57_method_2_code_1) rfl rfl k) ?_
  show Go p e below _ (s₁.setTop (mkF m 2 #[vR a1, vR m1] [(.ref m1), (.ref a1)]))
  obtain ⟨v_21, T_21, L_21, X_21, hQ_21, hS_21, hZ_21, hown_21, C_21, st_21⟩ := goCW X0 hx hZ (y := Y_2) hown hS0 hk0 rfl (wd_48 hw) (wd_49 hw) (wd_53 hw) (by decide) (backOfSKH (W := 0) (rm_reS l Z a0 hw zc vfm vus vss (a1) (m1) h0 n0 (Nat.le_trans Z0 KP0.1) E_a1 U_a1 g_a1 hl F_cause F_stackTrace F_suppressedExceptions F_backtrace F_detailMessage hSt hO) hZ (wd_53 hw) (wd_52 hw) (by decide) (by decide) hEL CV0 (Vm.MethodsKnown.alikeC hZ.alike hTK) (Vm.FramesKnown.alikeC hZ.alike hFK)) e0 (g := (mkF m 2 #[vR a1, vR m1] [(.ref m1), (.ref a1)])) rfl (by rw [hml]; rfl) (a := a1) (argsL := [(.ref m1)]) (rest := []) rfl (lenOf pd_0 rfl) rfl (by show 2 * 0 + _ ≤ _; exact Nat.le_of_eq rfl) (hb hby d_jdk_57_method_2_code_2) (by decide) (by decide)
  obtain ⟨rfl, Nq_21, K_21, u0_21, u1_21⟩ := hQ_21
  have N_21 := Fr.app N0 Nq_21
  have CR_21 := CHr.trans (CHr.refl CV0) C_21
  have le_21 : h0.size ≤ T_21.heap.size := K_21.1
  have KP_21 := KP0.trans K_21 (allS (Or.inl (List.mem_of_getElem? (i := 0) rfl)) all0)
  have O_21 := hO.keep K_21 (allS g_a1 all0)
  refine Go.step st_21 ?_
  show Go p e below _ (T_21.setTop (mkF m 5 #[vR a1, vR m1] []))
  exact Go.ret0W X_21 rfl hS_21 (Nat.le_refl _) hZ_21 hEL hh0 CR_21 hx hlk hret (hb hby d_jdk_57_method_2_code_5) (by decide) (by decide) (by exact ⟨rfl, N_21, KP_21, u0_21, u1_21⟩)
--@E
--@C ivS
def Q_ivS (Z : State) (zc : Int32) (vfm : Value) (vus : Value) (vss : Value) (a1 : Addr) (m1 : Addr) (h0 : Heap) (n0 : Nat) (v : Option Value) (h : Heap) (L : List Loc) : Prop := v = none ∧ Fr n0 L ∧ Keep h0 h [a1] ∧ Exa Z h a1 "com/example/hallstatt/hallstatt/InvalidValueException" ∧ Fld Z h a1 "java/lang/Throwable" "detailMessage" "Ljava/lang/String;" (.ref m1)
set_option maxRecDepth 65536 in
set_option maxHeartbeats 40000000 in
theorem rm_ivS (l : Launch) (Z : State) (a0 : Array Value) (hw : ∀ d ∈ tables_1, d.before a0 Z = true) (zc : Int32) (vfm : Value) (vus : Value) (vss : Value) (a1 : Addr) (m1 : Addr) (h0 : Heap) (n0 : Nat) (Z0 : n0 ≤ h0.size) (E_a1 : Exa Z h0 a1 "com/example/hallstatt/hallstatt/InvalidValueException") (U_a1 : Unt h0 a1) (g_a1 : n0 ≤ a1) (hl : (l.stackTraces = true)) (F_cause : Fld Z h0 a1 "java/lang/Throwable" "cause" "Ljava/lang/Throwable;" .null) (F_stackTrace : Fld Z h0 a1 "java/lang/Throwable" "stackTrace" "[Ljava/lang/StackTraceElement;" .null) (F_suppressedExceptions : Fld Z h0 a1 "java/lang/Throwable" "suppressedExceptions" "Ljava/util/List;" .null) (F_backtrace : Fld Z h0 a1 "java/lang/Throwable" "backtrace" "Ljava/lang/Object;" .null) (F_detailMessage : Fld Z h0 a1 "java/lang/Throwable" "detailMessage" "Ljava/lang/String;" .null) (hSt : St Z zc vfm vus vss) (hO : Old Z n0 h0) :
    CK l Z EL ({ cls := "com/example/hallstatt/hallstatt/InvalidValueException", name := "<init>", desc := "(Ljava/lang/String;)V" } : Jvm.MethodName) [(Jvm.Cond.code ({ cls := "com/example/hallstatt/hallstatt/InvalidValueException", name := "<init>", desc := "(Ljava/lang/String;)V" } : Jvm.MethodName) prog_3_method_1_code (2 : Nat) (Option.none : Option Jvm.ClassFile.FieldType))] ({ frames := 7, cells := 1, slots := 2752, locals := 94 } : Room) #[(.ref a1), (.ref m1)] h0 (Q_ivS Z zc vfm vus vss a1 m1 h0 n0) := by
  refine CK.of (L0 := #[vR a1, vR m1]) (plainFor_of_name pn_4) (fun m => by first | (simp [entryFrame, mkF, argsToLocals, Value.category]; done) | rfl) ?_
  intro p e s m below meth c s₁ hx hby hml hret hlk hZ hown hnm X0 e0 hS0 hk0 CV0 hh0 hTK hFK
  have hEL := hEL_ (a0 := a0) hw
  have hwS := hwS_ hw
  have N0 := Fr.nil n0
  have KP0 := Keep.refl h0 [a1]
  have hSt_ := hSt
  obtain ⟨S_cs, n_cs, S_fm, r_fm, S_us, r_us, S_ss, r_ss⟩ := hSt_
  have h_vus := r_us
  have h_vss := r_ss
  show Go p e below _ (s₁.setTop (mkF m 0 #[vR a1, vR m1] []))
  refine Go.step (fun _ k => XS.aloadN X0.here hx rfl (hb hby d_prog_3_method_1_code_0) rfl rfl k) ?_
  refine Go.step (fun _ k => XS.aloadN X0.here hx rfl (hb hby d_prog_3_method_1_code_1) rfl rfl k) ?_
  show Go p e below _ (s₁.setTop (mkF m 2 #[vR a1, vR m1] [(.ref m1), (.ref a1)]))
  obtain ⟨v_22, T_22, L_22, X_22, hQ_22, hS_22, hZ_22, hown_22, C_22, st_22⟩ := goCW X0 hx hZ (y := Y_3) hown hS0 hk0 rfl (wd_43 hw) (wd_44 hw) (wd_47 hw) (by decide) (backOfSKH (W := 0) (rm_iaS l Z a0 hw zc vfm vus vss (a1) (m1) h0 n0 (Nat.le_trans Z0 KP0.1) E_a1 U_a1 g_a1 hl F_cause F_stackTrace F_suppressedExceptions F_backtrace F_detailMessage hSt hO) hZ (wd_47 hw) (wd_46 hw) (by decide) (by decide) hEL CV0 (Vm.MethodsKnown.alikeC hZ.alike hTK) (Vm.FramesKnown.alikeC hZ.alike hFK)) e0 (g := (mkF m 2 #[vR a1, vR m1] [(.ref m1), (.ref a1)])) rfl (by rw [hml]; rfl) (a := a1) (argsL := [(.ref m1)]) (rest := []) rfl (lenOf pd_0 rfl) rfl (by show 2 * 0 + _ ≤ _; exact Nat.le_of_eq rfl) (hb hby d_prog_3_method_1_code_2) (by decide) (by decide)
  obtain ⟨rfl, Nq_22, K_22, u0_22, u1_22⟩ := hQ_22
  have N_22 := Fr.app N0 Nq_22
  have CR_22 := CHr.trans (CHr.refl CV0) C_22
  have le_22 : h0.size ≤ T_22.heap.size := K_22.1
  have KP_22 := KP0.trans K_22 (allS (Or.inl (List.mem_of_getElem? (i := 0) rfl)) all0)
  have O_22 := hO.keep K_22 (allS g_a1 all0)
  refine Go.step st_22 ?_
  show Go p e below _ (T_22.setTop (mkF m 5 #[vR a1, vR m1] []))
  exact Go.ret0W X_22 rfl hS_22 (Nat.le_refl _) hZ_22 hEL hh0 CR_22 hx hlk hret (hb hby d_prog_3_method_1_code_5) (by decide) (by decide) (by exact ⟨rfl, N_22, KP_22, u0_22, u1_22⟩)
--@E
theorem ofn_add (a b : Nat) : Int32.ofNat a + Int32.ofNat b = Int32.ofNat (a + b) := by
  apply Int32.toBitVec_inj.mp
  rw [Int32.toBitVec_add]
  show BitVec.ofNat 32 a + BitVec.ofNat 32 b = BitVec.ofNat 32 (a + b)
  exact (BitVec.ofNat_add a b).symm
theorem len_app (cs ds : List Int32) : Int32.ofNat cs.length + Int32.ofNat ds.length = Int32.ofNat (cs ++ ds).length := by rw [List.length_append]; exact ofn_add _ _
theorem clampN {k : Nat} (h : k ≤ 100000) : (Int32.ofNat k).toNatClampNeg = k := by
  have e := ofNat_toInt h
  simp only [Int32.toNatClampNeg]
  omega
theorem ofn_pos {k : Nat} (h : k ≤ 100000) : ¬ Int32.ofNat k < 0 := by
  rw [Int32.lt_iff_toInt_lt, ofNat_toInt h]
  have e : (0 : Int32).toInt = 0 := by decide
  omega
theorem ofn_lt {j k : Nat} (hj : j ≤ 100000) (hk : k ≤ 100000) : Int32.ofNat j < Int32.ofNat k ↔ j < k := by
  rw [Int32.lt_iff_toInt_lt, ofNat_toInt hj, ofNat_toInt hk]; omega
theorem ofn_inj {j k : Nat} (hj : j ≤ 100000) (hk : k ≤ 100000) (h : Int32.ofNat j = Int32.ofNat k) : j = k := by
  have a := ofNat_toInt hj
  have b := ofNat_toInt hk
  rw [h] at a
  omega
theorem ofn_sub {j k : Nat} (hj : j ≤ 100000) (hk : k ≤ 100000) (h : k ≤ j) : Int32.ofNat j - Int32.ofNat k = Int32.ofNat (j - k) := by
  have a := c_isub (Int32.ofNat j) (Int32.ofNat k)
  have b := rng32 (Int32.ofNat j - Int32.ofNat k)
  rw [ofNat_toInt hj, ofNat_toInt hk] at a
  apply Int32.toInt_inj.mp
  rw [ofNat_toInt (by omega)]
  omega
theorem shr0 (x : Int32) : x >>> ((0 : Int32) &&& 31) = x := Int32.toInt_inj.mp (by have := c_ishr x 0 0 (by decide); omega)
theorem shl0 (x : Int32) : x <<< ((0 : Int32) &&& 31) = x := Int32.toInt_inj.mp (by have := c_ishl x 0 0 (by decide); have := rng32 x; have := rng32 (x <<< ((0 : Int32) &&& 31)); omega)
/-- what arraycopy laid -/
theorem cp_us (bs : List Int32) (k n : Nat) (h : k + n ≤ bs.length) : ((List.range n).map fun i => (bs.map Value.int).getD (k + i) (.int (0 : Int32))) = ((bs.drop k).take n).map Value.int := by
  apply List.ext_getElem
  · simp; omega
  · intro i h1 h2
    simp only [List.length_map, List.length_range] at h1
    have e : k + i < bs.length := by omega
    simp [List.getD_eq_getElem?_getD, List.getElem?_eq_getElem e]
theorem cp_eq {bs : List Int32} {vd : List Value} {sp dp nn : Int32} {k d n : Nat} (e1 : sp.toNatClampNeg = k) (e2 : dp.toNatClampNeg = d) (e3 : nn.toNatClampNeg = n) (h : k + n ≤ bs.length) :
    vd.take dp.toNatClampNeg ++ ((List.range nn.toNatClampNeg).map fun i => (bs.map Value.int).getD (sp.toNatClampNeg + i) (.int (0 : Int32))) ++ vd.drop (dp.toNatClampNeg + nn.toNatClampNeg) = vd.take d ++ ((bs.drop k).take n).map Value.int ++ vd.drop (d + n) := by
  rw [e1, e2, e3, cp_us bs k n h]
def insB (bs cs ds : List Int32) : List Int32 := bs.take cs.length ++ (ds.map fun c => c.toInt8.toInt32) ++ bs.drop (cs.length + ds.length)
theorem insB_len {bs cs ds : List Int32} (h : cs.length + ds.length ≤ bs.length) : (insB bs cs ds).length = bs.length := by simp [insB]; omega
theorem insB_take {bs cs ds : List Int32} (h : cs.length + ds.length ≤ bs.length) (hp : bs.take cs.length = cs.map fun c => c.toInt8.toInt32) : (insB bs cs ds).take (cs ++ ds).length = (cs ++ ds).map fun c => c.toInt8.toInt32 := by
  have e : (cs ++ ds).length = (bs.take cs.length ++ (ds.map fun c => c.toInt8.toInt32)).length := by simp; omega
  rw [insB, e, List.take_left, hp, List.map_append]
theorem cp_ins {bs cs ds : List Int32} {sp dp nn : Int32} (e1 : sp.toNatClampNeg = 0) (e2 : dp.toNatClampNeg = cs.length) (e3 : nn.toNatClampNeg = ds.length) :
    (bs.map Value.int).take dp.toNatClampNeg ++ ((List.range nn.toNatClampNeg).map fun i => ((ds.map fun c => c.toInt8.toInt32).map Value.int).getD (sp.toNatClampNeg + i) (.int (0 : Int32))) ++ (bs.map Value.int).drop (dp.toNatClampNeg + nn.toNatClampNeg) = (insB bs cs ds).map Value.int := by
  have q : (ds.map fun c => c.toInt8.toInt32).take ds.length = ds.map fun c => c.toInt8.toInt32 := List.take_of_length_le (by simp)
  rw [cp_eq e1 e2 e3 (by simp), List.drop_zero, q, insB, List.map_append, List.map_append, List.map_take, List.map_drop]
theorem cp_grow {bs : List Int32} {vd : List Value} {sp dp nn : Int32} {k : Nat} (e1 : sp.toNatClampNeg = 0) (e2 : dp.toNatClampNeg = 0) (e3 : nn.toNatClampNeg = bs.length) (hv : vd = List.replicate (bs.length + k) (.int (0 : Int32))) :
    vd.take dp.toNatClampNeg ++ ((List.range nn.toNatClampNeg).map fun i => (bs.map Value.int).getD (sp.toNatClampNeg + i) (.int (0 : Int32))) ++ vd.drop (dp.toNatClampNeg + nn.toNatClampNeg) = (bs ++ List.replicate k (0 : Int32)).map Value.int := by
  rw [cp_eq e1 e2 e3 (by simp), List.drop_zero, List.take_of_length_le (Nat.le_refl _), hv]
  simp
theorem cp_rng {bs : List Int32} {vd : List Value} {sp dp nn : Int32} {k n : Nat} (e1 : sp.toNatClampNeg = k) (e2 : dp.toNatClampNeg = 0) (e3 : nn.toNatClampNeg = n) (h : k + n ≤ bs.length) (hv : vd.length = n) :
    vd.take dp.toNatClampNeg ++ ((List.range nn.toNatClampNeg).map fun i => (bs.map Value.int).getD (sp.toNatClampNeg + i) (.int (0 : Int32))) ++ vd.drop (dp.toNatClampNeg + nn.toNatClampNeg) = ((bs.drop k).take n).map Value.int := by
  have d : vd.drop (0 + n) = [] := List.drop_of_length_le (by omega)
  rw [cp_eq e1 e2 e3 h, d]
  simp
theorem eq_of_nlt {x y : Int32} (h : ¬ x < y) (h2 : ¬ y < x) : x = y := by
  rw [Int32.lt_iff_toInt_lt] at h h2
  exact Int32.toInt_inj.mp (by omega)
theorem gr_of {m : Nat} (h : 16 < m ∧ m ≤ 34) : (0 : Int32) < Int32.ofNat m - (16 : Int32) := by
  rw [show (16 : Int32) = Int32.ofNat 16 from rfl, ofn_sub (by omega) (by omega) (by omega), show (0 : Int32) = Int32.ofNat 0 from rfl, ofn_lt (by omega) (by omega)]; omega
theorem ng_of {m : Nat} (h : m ≤ 16) : ¬ (0 : Int32) < Int32.ofNat m - (16 : Int32) := by
  have a := c_isub (Int32.ofNat m) 16
  have b := rng32 (Int32.ofNat m - (16 : Int32))
  have e : (16 : Int32).toInt = 16 := by decide
  have e0 : (0 : Int32).toInt = 0 := by decide
  rw [ofNat_toInt (by omega), e] at a
  rw [Int32.lt_iff_toInt_lt]
  omega

--@C abi
def Q_abi (Z : State) (zc : Int32) (vfm : Value) (vus : Value) (vss : Value) (a1 : Addr) (h0 : Heap) (n0 : Nat) (v : Option Value) (h : Heap) (L : List Loc) : Prop := ∃ (t : Addr) (kt : ClassId), v = none ∧ Fr n0 L ∧ Keep h0 h [a1] ∧ Fld Z h a1 "java/lang/AbstractStringBuilder" "value" "[B" (.ref t) ∧ h0.size ≤ t ∧ Exa Z h t "[B" ∧ Fld Z h a1 "java/lang/AbstractStringBuilder" "coder" "B" (.int (0 : Int32)) ∧ Fld Z h a1 "java/lang/AbstractStringBuilder" "count" "I" (.int (0 : Int32)) ∧ Arv Z h t kt .byte (16 : Int32) ((List.replicate 16 (0 : Int32)).map Value.int) (.int (0 : Int32))
set_option maxRecDepth 65536 in
set_option maxHeartbeats 40000000 in
theorem rm_abi (l : Launch) (Z : State) (a0 : Array Value) (hw : ∀ d ∈ tables_1, d.before a0 Z = true) (zc : Int32) (vfm : Value) (vus : Value) (vss : Value) (a1 : Addr) (h0 : Heap) (n0 : Nat) (Z0 : n0 ≤ h0.size) (E_a1 : Exa Z h0 a1 "java/lang/StringBuilder") (F_v : Fld Z h0 a1 "java/lang/AbstractStringBuilder" "value" "[B" .null) (F_c : Fld Z h0 a1 "java/lang/AbstractStringBuilder" "coder" "B" (.int (0 : Int32))) (F_n : Fld Z h0 a1 "java/lang/AbstractStringBuilder" "count" "I" (.int (0 : Int32))) (g_a1 : n0 ≤ a1) (hSt : St Z zc vfm vus vss) (hO : Old Z n0 h0) :
    CN l Z ({ cls := "java/lang/AbstractStringBuilder", name := "<init>", desc := "(I)V" } : Jvm.MethodName) [(Jvm.Cond.code ({ cls := "java/lang/AbstractStringBuilder", name := "<init>", desc := "(I)V" } : Jvm.MethodName) jdk_68_method_2_code (2 : Nat) (Option.none : Option Jvm.ClassFile.FieldType))] ({ frames := 1, cells := 1, slots := 16, locals := 12 } : Room) #[(.ref a1), (.int (16 : Int32))] h0 (Q_abi Z zc vfm vus vss a1 h0 n0) := by
  refine CN.of (L0 := #[vR a1, vI 16]) (plainFor_of_name pn_5) (fun m => by first | (simp [entryFrame, mkF, argsToLocals, Value.category]; done) | rfl) ?_
  intro p e s m below meth c s₁ hx hby hml hret hlk hZ hown hnm X0 e0
  have N0 := Fr.nil n0
  have KP0 := Keep.refl h0 [a1]
  have hSt_ := hSt
  obtain ⟨S_cs, n_cs, S_fm, r_fm, S_us, r_us, S_ss, r_ss⟩ := hSt_
  show Go p e below _ (s₁.setTop (mkF m 0 #[vR a1, vI 16] []))
  refine Go.step (fun _ k => XS.aloadN X0.here hx rfl (hb hby d_jdk_68_method_2_code_0) rfl rfl k) ?_
  show Go p e below _ (s₁.setTop (mkF m 1 #[vR a1, vI 16] [(.ref a1)]))
  obtain ⟨T_23, X_23, e_23, st_23⟩ := initO X0 hx hZ hown (wd_121 hw) (wd_16 hw) (wd_17 hw) e0 (g := (mkF m 1 #[vR a1, vI 16] [(.ref a1)])) rfl (by rw [hml]; rfl) rfl (hb hby d_jdk_68_method_2_code_1) (by decide) (W := 0) (by show 2 * 0 + _ ≤ _; exact Nat.le_of_eq rfl) (by decide)
  refine Go.step st_23 ?_
  show Go p e below _ (T_23.setTop (mkF m 4 #[vR a1, vI 16] []))
  obtain ⟨T_24, X_24, e_24, st_24⟩ := getS2 X_23 hx hZ hown (host := "") (Or.inl (wd_122 hw)) Via.refl e_23 (S_cs.ext hO.2) (g := (mkF m 4 #[vR a1, vI 16] [])) rfl (hb hby d_jdk_68_method_2_code_4)
  refine Go.step st_24 ?_
  show Go p e below _ (T_24.setTop (mkF m 7 #[vR a1, vI 16] [(.int zc)]))
  refine Go.step (fun _ k => XS.ifNo X_24.here hx rfl (hb hby d_jdk_68_method_2_code_7) rfl ((if0 _ _).trans (feq (n_cs : ¬ (zc = (0 : Int32)))).1) k) ?_
  show Go p e below _ (T_24.setTop (mkF m 10 #[vR a1, vI 16] []))
  refine Go.step (fun _ k => XS.aloadN X_24.here hx rfl (hb hby d_jdk_68_method_2_code_10) rfl rfl k) ?_
  refine Go.step (fun _ k => XS.iloadN X_24.here hx rfl (hb hby d_jdk_68_method_2_code_11) rfl  k) ?_
  show Go p e below _ (T_24.setTop (mkF m 12 #[vR a1, vI 16] [(.int (16 : Int32)), (.ref a1)]))
  obtain ⟨T_25, h_25, k_25, X_25, e_25, E_25, A_25, B_25, st_25⟩ := newPE X_24 hx hZ (aty := .byte) (wd_23 hw) e_24 (g := (mkF m 12 #[vR a1, vI 16] [(.int (16 : Int32)), (.ref a1)])) rfl (hb hby d_jdk_68_method_2_code_12) rfl (by decide) (cap := 16) (by decide) (by decide) (by decide) (by decide) (ad := "[B") (by decide)
  obtain ⟨b25, q_25⟩ : ∃ z, z = h0.size := ⟨_, rfl⟩
  rw [← q_25] at A_25 B_25 st_25
  refine Go.step st_25 ?_
  have le_25 : h0.size ≤ h_25.size := E_25.1
  have KP_25 := KP0.ext E_25
  have O_25 := hO.ext E_25
  have ge_25 : h0.size ≤ b25 := Nat.le_of_eq q_25.symm
  have sz_b25 : h0.size ≤ b25 := Nat.le_trans (Nat.le_refl _) ge_25
  have g_b25 : n0 ≤ b25 := Nat.le_trans Z0 sz_b25
  have V_25 : Arv Z h_25 b25 k_25 .byte (16 : Int32) [(.int (0 : Int32)), (.int (0 : Int32)), (.int (0 : Int32)), (.int (0 : Int32)), (.int (0 : Int32)), (.int (0 : Int32)), (.int (0 : Int32)), (.int (0 : Int32)), (.int (0 : Int32)), (.int (0 : Int32)), (.int (0 : Int32)), (.int (0 : Int32)), (.int (0 : Int32)), (.int (0 : Int32)), (.int (0 : Int32)), (.int (0 : Int32))] (.int (0 : Int32)) := (Arv.new A_25 (by decide)).pad (pad_rep [] (.int (0 : Int32)) 16)
  show Go p e below _ (T_25.setTop (mkF m 14 #[vR a1, vI 16] [(.ref b25), (.ref a1)]))
  have f26 : Exa Z h_25 a1 "java/lang/StringBuilder" := (E_a1.ext E_25)
  have f27 : Fld Z h_25 a1 "java/lang/AbstractStringBuilder" "value" "[B" .null := (F_v.ext E_25)
  obtain ⟨T_28, h_28, X_28, e_28, W_28, st_28⟩ := putF X_25 hx hZ hown (host := "") (Or.inl (wd_123 hw)) Via.refl e_25 f27 f26 (Or.inl (wd_124 hw)) (wd_110 hw) (ty := (.array .byte)) pf_5 rfl rfl (g := (mkF m 14 #[vR a1, vI 16] [(.ref b25), (.ref a1)])) rfl rfl (hb hby d_jdk_68_method_2_code_14)
  refine Go.step st_28 ?_
  have N_28 := Fr.snoc X_28 N0 g_a1
  have le_28 : h_25.size ≤ h_28.size := Nat.le_of_eq W_28.size.symm
  have KP_28 := KP_25.wr W_28 (Or.inl (List.mem_of_getElem? (i := 0) rfl))
  have O_28 := O_25.wr W_28 g_a1
  have F_28 : Fld Z h_28 a1 "java/lang/AbstractStringBuilder" "value" "[B" (.ref b25) := f27.same W_28
  show Go p e below _ (T_28.setTop (mkF m 17 #[vR a1, vI 16] []))
  refine Go.step (fun _ k => XS.aloadN X_28.here hx rfl (hb hby d_jdk_68_method_2_code_17) rfl rfl k) ?_
  refine Go.step (fun _ k => XS.iconst X_28.here hx rfl (hb hby d_jdk_68_method_2_code_18) k) ?_
  show Go p e below _ (T_28.setTop (mkF m 19 #[vR a1, vI 16] [(.int (0 : Int32)), (.ref a1)]))
  have f29 : Exa Z h_28 a1 "java/lang/StringBuilder" := (f26.wr W_28)
  have f30 : Fld Z h_28 a1 "java/lang/AbstractStringBuilder" "coder" "B" (.int (0 : Int32)) := ((F_c.ext E_25).other W_28 (Or.inr (sn_10 hw)))
  obtain ⟨T_31, h_31, X_31, e_31, W_31, st_31⟩ := putFN X_28 hx hZ hown (wd_125 hw) Via.refl e_28 f30 f29 (Or.inl (wd_126 hw)) (wd_110 hw) (ty := .byte) (v' := (.int (0 : Int32))) pf_6 rfl (by decide) (g := (mkF m 19 #[vR a1, vI 16] [(.int (0 : Int32)), (.ref a1)])) rfl rfl (hb hby d_jdk_68_method_2_code_19)
  refine Go.step st_31 ?_
  have N_31 := Fr.snoc X_31 N_28 g_a1
  have le_31 : h_28.size ≤ h_31.size := Nat.le_of_eq W_31.size.symm
  have KP_31 := KP_28.wr W_31 (Or.inl (List.mem_of_getElem? (i := 0) rfl))
  have O_31 := O_28.wr W_31 g_a1
  have F_31 : Fld Z h_31 a1 "java/lang/AbstractStringBuilder" "coder" "B" (.int (0 : Int32)) := f30.same W_31
  show Go p e below _ (T_31.setTop (mkF m 22 #[vR a1, vI 16] []))
  refine Go.step (fun _ k => XS.goto X_31.here hx rfl (pc0 := 22) (pc' := 38) rfl (hb hby d_jdk_68_method_2_code_22) (by decide) (by decide) k) ?_
  show Go p e below _ (T_31.setTop (mkF m 38 #[vR a1, vI 16] []))
  have f32 : Arv Z h_31 b25 k_25 .byte (16 : Int32) [(.int (0 : Int32)), (.int (0 : Int32)), (.int (0 : Int32)), (.int (0 : Int32)), (.int (0 : Int32)), (.int (0 : Int32)), (.int (0 : Int32)), (.int (0 : Int32)), (.int (0 : Int32)), (.int (0 : Int32)), (.int (0 : Int32)), (.int (0 : Int32)), (.int (0 : Int32)), (.int (0 : Int32)), (.int (0 : Int32)), (.int (0 : Int32))] (.int (0 : Int32)) := ((V_25.other W_28 (Ne.symm (Nat.ne_of_lt (Nat.lt_of_lt_of_le E_a1.lt (Nat.le_trans (Nat.le_refl _) ge_25))))).other W_31 (Ne.symm (Nat.ne_of_lt (Nat.lt_of_lt_of_le E_a1.lt (Nat.le_trans (Nat.le_refl _) ge_25)))))
  have Ac33 : Arv Z h_31 b25 k_25 .byte (16 : Int32) ((List.replicate 16 (0 : Int32)).map Value.int) (.int (0 : Int32)) := by
    have q := f32
    rw [show [Value.int (0 : Int32), Value.int (0 : Int32), Value.int (0 : Int32), Value.int (0 : Int32), Value.int (0 : Int32), Value.int (0 : Int32), Value.int (0 : Int32), Value.int (0 : Int32), Value.int (0 : Int32), Value.int (0 : Int32), Value.int (0 : Int32), Value.int (0 : Int32), Value.int (0 : Int32), Value.int (0 : Int32), Value.int (0 : Int32), Value.int (0 : Int32)] = ((List.replicate 16 (0 : Int32)).map Value.int) from rfl] at q
    exact q
  have f34 : Fld Z h_31 a1 "java/lang/AbstractStringBuilder" "value" "[B" (.ref b25) := (F_28.other W_31 (Or.inr (sn_11 hw)))
  have f35 : Exa Z h_31 b25 "[B" := ((B_25.wr W_28).wr W_31)
  have f36 : Fld Z h_31 a1 "java/lang/AbstractStringBuilder" "count" "I" (.int (0 : Int32)) := (((F_n.ext E_25).other W_28 (Or.inr (sn_12 hw))).other W_31 (Or.inr (sn_13 hw)))
  exact Go.ret0 X_31 hx hlk hret (hb hby d_jdk_68_method_2_code_38) (by decide) (by decide) (by rw [e_31]; exact ⟨b25, k_25, rfl, N_31, KP_31, f34, sz_b25, f35, F_31, f36, Ac33⟩)
--@E
--@C sbi
def Q_sbi (Z : State) (zc : Int32) (vfm : Value) (vus : Value) (vss : Value) (a1 : Addr) (h0 : Heap) (n0 : Nat) (v : Option Value) (h : Heap) (L : List Loc) : Prop := ∃ (t : Addr) (kt : ClassId), v = none ∧ Fr n0 L ∧ Keep h0 h [a1] ∧ Fld Z h a1 "java/lang/AbstractStringBuilder" "value" "[B" (.ref t) ∧ h0.size ≤ t ∧ Exa Z h t "[B" ∧ Fld Z h a1 "java/lang/AbstractStringBuilder" "coder" "B" (.int (0 : Int32)) ∧ Fld Z h a1 "java/lang/AbstractStringBuilder" "count" "I" (.int (0 : Int32)) ∧ Arv Z h t kt .byte (16 : Int32) ((List.replicate 16 (0 : Int32)).map Value.int) (.int (0 : Int32))
set_option maxRecDepth 65536 in
set_option maxHeartbeats 40000000 in
theorem rm_sbi (l : Launch) (Z : State) (a0 : Array Value) (hw : ∀ d ∈ tables_1, d.before a0 Z = true) (zc : Int32) (vfm : Value) (vus : Value) (vss : Value) (a1 : Addr) (h0 : Heap) (n0 : Nat) (Z0 : n0 ≤ h0.size) (E_a1 : Exa Z h0 a1 "java/lang/StringBuilder") (F_v : Fld Z h0 a1 "java/lang/AbstractStringBuilder" "value" "[B" .null) (F_c : Fld Z h0 a1 "java/lang/AbstractStringBuilder" "coder" "B" (.int (0 : Int32))) (F_n : Fld Z h0 a1 "java/lang/AbstractStringBuilder" "count" "I" (.int (0 : Int32))) (g_a1 : n0 ≤ a1) (hSt : St Z zc vfm vus vss) (hO : Old Z n0 h0) :
    CN l Z ({ cls := "java/lang/StringBuilder", name := "<init>", desc := "()V" } : Jvm.MethodName) [(Jvm.Cond.code ({ cls := "java/lang/StringBuilder", name := "<init>", desc := "()V" } : Jvm.MethodName) jdk_67_method_1_code (1 : Nat) (Option.none : Option Jvm.ClassFile.FieldType))] ({ frames := 2, cells := 1, slots := 16, locals := 25 } : Room) #[(.ref a1)] h0 (Q_sbi Z zc vfm vus vss a1 h0 n0) := by
  refine CN.of (L0 := #[vR a1]) (plainFor_of_name pn_6) (fun m => by first | (simp [entryFrame, mkF, argsToLocals, Value.category]; done) | rfl) ?_
  intro p e s m below meth c s₁ hx hby hml hret hlk hZ hown hnm X0 e0
  have N0 := Fr.nil n0
  have KP0 := Keep.refl h0 [a1]
  have hSt_ := hSt
  obtain ⟨S_cs, n_cs, S_fm, r_fm, S_us, r_us, S_ss, r_ss⟩ := hSt_
  show Go p e below _ (s₁.setTop (mkF m 0 #[vR a1] []))
  refine Go.step (fun _ k => XS.aloadN X0.here hx rfl (hb hby d_jdk_67_method_1_code_0) rfl rfl k) ?_
  refine Go.step (fun _ k => XS.bipush X0.here hx rfl (hb hby d_jdk_67_method_1_code_1) k) ?_
  show Go p e below _ (s₁.setTop (mkF m 3 #[vR a1] [(.int (16 : Int32)), (.ref a1)]))
  obtain ⟨v_37, T_37, L_37, X_37, hQ_37, st_37⟩ := goC X0 hx hZ (y := Y_4) hown rfl (wd_115 hw) (wd_116 hw) (wd_120 hw) (by decide) (backOf (W := 0) (rm_abi l Z a0 hw zc vfm vus vss (a1) h0 n0 (Nat.le_trans Z0 KP0.1) E_a1 F_v F_c F_n g_a1 hSt hO) hZ (wd_120 hw) (wd_119 hw) (by decide) (by decide)) e0 (g := (mkF m 3 #[vR a1] [(.int (16 : Int32)), (.ref a1)])) rfl (by rw [hml]; rfl) (a := a1) (argsL := [(.int (16 : Int32))]) (rest := []) rfl (lenOf pd_1 rfl) rfl (by show 2 * 0 + _ ≤ _; exact Nat.le_of_eq rfl) (hb hby d_jdk_67_method_1_code_3) (by decide) (by decide)
  obtain ⟨t_37, kt_37, rfl, Nq_37, K_37, u0_37, u1_37, u2_37, u3_37, u4_37, u5_37⟩ := hQ_37
  have N_37 := Fr.app N0 Nq_37
  have le_37 : h0.size ≤ T_37.heap.size := K_37.1
  have KP_37 := KP0.trans K_37 (allS (Or.inl (List.mem_of_getElem? (i := 0) rfl)) all0)
  have O_37 := hO.keep K_37 (allS g_a1 all0)
  have sz_t_37 : h0.size ≤ t_37 := Nat.le_trans (Nat.le_refl _) u1_37
  have g_t_37 : n0 ≤ t_37 := Nat.le_trans Z0 sz_t_37
  refine Go.step st_37 ?_
  show Go p e below _ (T_37.setTop (mkF m 6 #[vR a1] []))
  exact Go.ret0 X_37 hx hlk hret (hb hby d_jdk_67_method_1_code_6) (by decide) (by decide) (by exact ⟨t_37, kt_37, rfl, N_37, KP_37, u0_37, sz_t_37, u2_37, u3_37, u4_37, u5_37⟩)
--@E
--@C coder
def Q_coder (Z : State) (zc : Int32) (vfm : Value) (vus : Value) (vss : Value) (a1 : Addr) (h0 : Heap) (n0 : Nat) (v : Option Value) (h : Heap) (L : List Loc) : Prop := v = some (.int (0 : Int32)) ∧ Fr n0 L ∧ h = h0
set_option maxRecDepth 65536 in
set_option maxHeartbeats 40000000 in
theorem rm_coder (l : Launch) (Z : State) (a0 : Array Value) (hw : ∀ d ∈ tables_1, d.before a0 Z = true) (zc : Int32) (vfm : Value) (vus : Value) (vss : Value) (a1 : Addr) (h0 : Heap) (n0 : Nat) (Z0 : n0 ≤ h0.size) (Fc_a1 : Fld Z h0 a1 "java/lang/String" "coder" "B" (.int (0 : Int32))) (hSt : St Z zc vfm vus vss) (hO : Old Z n0 h0) :
    CN l Z ({ cls := "java/lang/String", name := "coder", desc := "()B" } : Jvm.MethodName) [(Jvm.Cond.code ({ cls := "java/lang/String", name := "coder", desc := "()B" } : Jvm.MethodName) jdk_42_method_152_code (1 : Nat) (Option.some Jvm.ClassFile.FieldType.byte))] ({ frames := 0, cells := 0, slots := 0, locals := 0 } : Room) #[(.ref a1)] h0 (Q_coder Z zc vfm vus vss a1 h0 n0) := by
  refine CN.of (L0 := #[vR a1]) (plainFor_of_name pn_7) (fun m => by first | (simp [entryFrame, mkF, argsToLocals, Value.category]; done) | rfl) ?_
  intro p e s m below meth c s₁ hx hby hml hret hlk hZ hown hnm X0 e0
  have N0 := Fr.nil n0
  have KP0 := Keep.refl h0 []
  have hSt_ := hSt
  obtain ⟨S_cs, n_cs, S_fm, r_fm, S_us, r_us, S_ss, r_ss⟩ := hSt_
  show Go p e below _ (s₁.setTop (mkF m 0 #[vR a1] []))
  obtain ⟨T_38, X_38, e_38, st_38⟩ := getS2 X0 hx hZ hown (host := "") (Or.inl (wd_18 hw)) Via.refl e0 (S_cs.ext hO.2) (g := (mkF m 0 #[vR a1] [])) rfl (hb hby d_jdk_42_method_152_code_0)
  refine Go.step st_38 ?_
  show Go p e below _ (T_38.setTop (mkF m 3 #[vR a1] [(.int zc)]))
  refine Go.step (fun _ k => XS.ifNo X_38.here hx rfl (hb hby d_jdk_42_method_152_code_3) rfl ((if0 _ _).trans (feq (n_cs : ¬ (zc = (0 : Int32)))).1) k) ?_
  show Go p e below _ (T_38.setTop (mkF m 6 #[vR a1] []))
  refine Go.step (fun _ k => XS.aloadN X_38.here hx rfl (hb hby d_jdk_42_method_152_code_6) rfl rfl k) ?_
  show Go p e below _ (T_38.setTop (mkF m 7 #[vR a1] [(.ref a1)]))
  obtain ⟨T_39, X_39, e_39, st_39⟩ := getF X_38 hx hZ hown (host := "") (Or.inl (wd_30 hw)) Via.refl e_38 Fc_a1 (g := (mkF m 7 #[vR a1] [(.ref a1)])) rfl rfl (hb hby d_jdk_42_method_152_code_7)
  refine Go.step st_39 ?_
  show Go p e below _ (T_39.setTop (mkF m 10 #[vR a1] [(.int (0 : Int32))]))
  refine Go.step (fun _ k => XS.goto X_39.here hx rfl (pc0 := 10) (pc' := 14) rfl (hb hby d_jdk_42_method_152_code_10) (by decide) (by decide) k) ?_
  show Go p e below _ (T_39.setTop (mkF m 14 #[vR a1] [(.int (0 : Int32))]))
  exact Go.retV X_39 hx hlk hret rfl (Or.inl ⟨rfl, Or.inr (Or.inr (Or.inl rfl)), _, rfl⟩) (hb hby d_jdk_42_method_152_code_14) (by decide) (by decide) (by rw [e_39]; exact ⟨rfl, N0, rfl⟩)
--@E
--@C inf
def Q_inf (Z : State) (zc : Int32) (vfm : Value) (vus : Value) (vss : Value) (a1 : Addr) (x1 : Addr) (ds : List Int32) (h0 : Heap) (n0 : Nat) (v : Option Value) (h : Heap) (L : List Loc) : Prop := v = none ∧ Fr n0 L ∧ h = h0
set_option maxRecDepth 65536 in
set_option maxHeartbeats 40000000 in
theorem rm_inf (l : Launch) (Z : State) (a0 : Array Value) (hw : ∀ d ∈ tables_1, d.before a0 Z = true) (zc : Int32) (vfm : Value) (vus : Value) (vss : Value) (a1 : Addr) (x1 : Addr) (ds : List Int32) (h0 : Heap) (n0 : Nat) (Z0 : n0 ≤ h0.size) (F_c : Fld Z h0 a1 "java/lang/AbstractStringBuilder" "coder" "B" (.int (0 : Int32))) (S_x1 : Str Z h0.size h0 x1 ds) (hSt : St Z zc vfm vus vss) (hO : Old Z n0 h0) :
    CN l Z ({ cls := "java/lang/AbstractStringBuilder", name := "inflateIfNeededFor", desc := "(Ljava/lang/String;)V" } : Jvm.MethodName) [(Jvm.Cond.code ({ cls := "java/lang/AbstractStringBuilder", name := "inflateIfNeededFor", desc := "(Ljava/lang/String;)V" } : Jvm.MethodName) jdk_68_method_71_code (2 : Nat) (Option.none : Option Jvm.ClassFile.FieldType))] ({ frames := 1, cells := 0, slots := 0, locals := 13 } : Room) #[(.ref a1), (.ref x1)] h0 (Q_inf Z zc vfm vus vss a1 x1 ds h0 n0) := by
  refine CN.of (L0 := #[vR a1, vR x1]) (plainFor_of_name pn_5) (fun m => by first | (simp [entryFrame, mkF, argsToLocals, Value.category]; done) | rfl) ?_
  intro p e s m below meth c s₁ hx hby hml hret hlk hZ hown hnm X0 e0
  have N0 := Fr.nil n0
  have KP0 := Keep.refl h0 []
  have hSt_ := hSt
  obtain ⟨S_cs, n_cs, S_fm, r_fm, S_us, r_us, S_ss, r_ss⟩ := hSt_
  show Go p e below _ (s₁.setTop (mkF m 0 #[vR a1, vR x1] []))
  obtain ⟨T_40, X_40, e_40, st_40⟩ := getS2 X0 hx hZ hown (host := "") (Or.inl (wd_122 hw)) Via.refl e0 (S_cs.ext hO.2) (g := (mkF m 0 #[vR a1, vR x1] [])) rfl (hb hby d_jdk_68_method_71_code_0)
  refine Go.step st_40 ?_
  show Go p e below _ (T_40.setTop (mkF m 3 #[vR a1, vR x1] [(.int zc)]))
  refine Go.step (fun _ k => XS.ifNo X_40.here hx rfl (hb hby d_jdk_68_method_71_code_3) rfl ((if0 _ _).trans (feq (n_cs : ¬ (zc = (0 : Int32)))).1) k) ?_
  show Go p e below _ (T_40.setTop (mkF m 6 #[vR a1, vR x1] []))
  refine Go.step (fun _ k => XS.aloadN X_40.here hx rfl (hb hby d_jdk_68_method_71_code_6) rfl rfl k) ?_
  show Go p e below _ (T_40.setTop (mkF m 7 #[vR a1, vR x1] [(.ref a1)]))
  obtain ⟨T_41, X_41, e_41, st_41⟩ := getF X_40 hx hZ hown (host := "") (Or.inl (wd_125 hw)) Via.refl e_40 F_c (g := (mkF m 7 #[vR a1, vR x1] [(.ref a1)])) rfl rfl (hb hby d_jdk_68_method_71_code_7)
  refine Go.step st_41 ?_
  show Go p e below _ (T_41.setTop (mkF m 10 #[vR a1, vR x1] [(.int (0 : Int32))]))
  refine Go.step (fun _ k => XS.aloadN X_41.here hx rfl (hb hby d_jdk_68_method_71_code_10) rfl rfl k) ?_
  show Go p e below _ (T_41.setTop (mkF m 11 #[vR a1, vR x1] [(.ref x1), (.int (0 : Int32))]))
  have cp42 := S_x1
  obtain ⟨t43, kb43, -, hb43, Ex43, Fv43, Fc43, Av43, hl43, hn43⟩ := cp42
  obtain ⟨v_44, T_44, L_44, X_44, hQ_44, st_44⟩ := goV X_41 hx hZ (y := Y_5) (z := Y_5) hown (wd_164 hw) (wd_143 hw) (notFace_of_selects (args := #[]) (mvT hZ (wd_145 hw))) (wd_145 hw) (wd_144 hw) (by decide) (backOf (W := 1) (rm_coder l Z a0 hw zc vfm vus vss (x1) h0 n0 (Nat.le_trans Z0 KP0.1) Fc43 hSt hO) hZ (wd_146 hw) (wd_6 hw) (by decide) (by decide)) e_41 Ex43 (g := (mkF m 11 #[vR a1, vR x1] [(.ref x1), (.int (0 : Int32))])) rfl (by rw [hml]; rfl) (argsL := []) (rest := [(.int (0 : Int32))]) rfl (lenOf pd_2 rfl) rfl (by show 2 * 0 + _ ≤ _; exact Nat.le_of_eq rfl) (hb hby d_jdk_68_method_71_code_11) (by decide) (by decide)
  obtain ⟨rfl, Nq_44, e_44⟩ := hQ_44
  have N_44 := Fr.app N0 Nq_44
  refine Go.step st_44 ?_
  show Go p e below _ (T_44.setTop (mkF m 14 #[vR a1, vR x1] [(.int (0 : Int32)), (.int (0 : Int32))]))
  refine Go.step (fun _ k => XS.icmpYes X_44.here hx rfl (pc0 := 14) (pc' := 21) rfl (hb hby d_jdk_68_method_71_code_14) rfl (teq ((by decide) : (0 : Int32) = (0 : Int32))).1 (by decide) (by decide) k) ?_
  show Go p e below _ (T_44.setTop (mkF m 21 #[vR a1, vR x1] []))
  exact Go.ret0 X_44 hx hlk hret (hb hby d_jdk_68_method_71_code_21) (by decide) (by decide) (by rw [e_44]; exact ⟨rfl, N_44, rfl⟩)
--@E
--@C gby
def Q_gby (Z : State) (zc : Int32) (vfm : Value) (vus : Value) (vss : Value) (t1 : Addr) (k1 : ClassId) (z1 : Int32) (bs : List Int32) (cs : List Int32) (x1 : Addr) (ds : List Int32) (h0 : Heap) (n0 : Nat) (v : Option Value) (h : Heap) (L : List Loc) : Prop := v = none ∧ Fr n0 L ∧ Keep h0 h [t1] ∧ Arv Z h t1 k1 .byte z1 ((insB bs cs ds).map Value.int) (.int (0 : Int32))
set_option maxRecDepth 65536 in
set_option maxHeartbeats 40000000 in
theorem rm_gby (l : Launch) (Z : State) (a0 : Array Value) (hw : ∀ d ∈ tables_1, d.before a0 Z = true) (zc : Int32) (vfm : Value) (vus : Value) (vss : Value) (t1 : Addr) (k1 : ClassId) (z1 : Int32) (bs : List Int32) (cs : List Int32) (x1 : Addr) (ds : List Int32) (h0 : Heap) (n0 : Nat) (Z0 : n0 ≤ h0.size) (A_t1 : Arv Z h0 t1 k1 .byte z1 (bs.map Value.int) (.int (0 : Int32))) (g_t1 : n0 ≤ t1) (S_x1 : Str Z h0.size h0 x1 ds) (hz : (z1 = Int32.ofNat bs.length)) (hbs : (bs.length ≤ 100)) (hN : (cs.length + ds.length ≤ bs.length)) (hSt : St Z zc vfm vus vss) (hO : Old Z n0 h0) :
    CN l Z ({ cls := "java/lang/String", name := "getBytes", desc := "([BIB)V" } : Jvm.MethodName) [(Jvm.Cond.code ({ cls := "java/lang/String", name := "getBytes", desc := "([BIB)V" } : Jvm.MethodName) jdk_42_method_147_code (4 : Nat) (Option.none : Option Jvm.ClassFile.FieldType))] ({ frames := 1, cells := 0, slots := 0, locals := 18 } : Room) #[(.ref x1), (.ref t1), (.int (Int32.ofNat cs.length)), (.int (0 : Int32))] h0 (Q_gby Z zc vfm vus vss t1 k1 z1 bs cs x1 ds h0 n0) := by
  refine CN.of (L0 := #[vR x1, vR t1, vI (Int32.ofNat cs.length), vI 0]) (plainFor_of_name pn_7) (fun m => by first | (simp [entryFrame, mkF, argsToLocals, Value.category]; done) | rfl) ?_
  intro p e s m below meth c s₁ hx hby hml hret hlk hZ hown hnm X0 e0
  have N0 := Fr.nil n0
  have KP0 := Keep.refl h0 [t1]
  have hSt_ := hSt
  obtain ⟨S_cs, n_cs, S_fm, r_fm, S_us, r_us, S_ss, r_ss⟩ := hSt_
  show Go p e below _ (s₁.setTop (mkF m 0 #[vR x1, vR t1, vI (Int32.ofNat cs.length), vI 0] []))
  refine Go.step (fun _ k => XS.aloadN X0.here hx rfl (hb hby d_jdk_42_method_147_code_0) rfl rfl k) ?_
  show Go p e below _ (s₁.setTop (mkF m 1 #[vR x1, vR t1, vI (Int32.ofNat cs.length), vI 0] [(.ref x1)]))
  have cp45 := S_x1
  obtain ⟨t46, kb46, -, hb46, Ex46, Fv46, Fc46, Av46, hl46, hn46⟩ := cp45
  obtain ⟨v_47, T_47, L_47, X_47, hQ_47, st_47⟩ := goV X0 hx hZ (y := Y_5) (z := Y_5) hown (wd_142 hw) (wd_143 hw) (notFace_of_selects (args := #[]) (mvT hZ (wd_145 hw))) (wd_145 hw) (wd_144 hw) (by decide) (backOf (W := 0) (rm_coder l Z a0 hw zc vfm vus vss (x1) h0 n0 (Nat.le_trans Z0 KP0.1) Fc46 hSt hO) hZ (wd_146 hw) (wd_6 hw) (by decide) (by decide)) e0 Ex46 (g := (mkF m 1 #[vR x1, vR t1, vI (Int32.ofNat cs.length), vI 0] [(.ref x1)])) rfl (by rw [hml]; rfl) (argsL := []) (rest := []) rfl (lenOf pd_2 rfl) rfl (by show 2 * 0 + _ ≤ _; exact Nat.le_of_eq rfl) (hb hby d_jdk_42_method_147_code_1) (by decide) (by decide)
  obtain ⟨rfl, Nq_47, e_47⟩ := hQ_47
  have N_47 := Fr.app N0 Nq_47
  refine Go.step st_47 ?_
  show Go p e below _ (T_47.setTop (mkF m 4 #[vR x1, vR t1, vI (Int32.ofNat cs.length), vI 0] [(.int (0 : Int32))]))
  refine Go.step (fun _ k => XS.iloadN X_47.here hx rfl (hb hby d_jdk_42_method_147_code_4) rfl  k) ?_
  show Go p e below _ (T_47.setTop (mkF m 5 #[vR x1, vR t1, vI (Int32.ofNat cs.length), vI 0] [(.int (0 : Int32)), (.int (0 : Int32))]))
  refine Go.step (fun _ k => XS.icmpNo X_47.here hx rfl (hb hby d_jdk_42_method_147_code_5) rfl (teq ((by decide) : (0 : Int32) = (0 : Int32))).2 k) ?_
  show Go p e below _ (T_47.setTop (mkF m 8 #[vR x1, vR t1, vI (Int32.ofNat cs.length), vI 0] []))
  refine Go.step (fun _ k => XS.aloadN X_47.here hx rfl (hb hby d_jdk_42_method_147_code_8) rfl rfl k) ?_
  show Go p e below _ (T_47.setTop (mkF m 9 #[vR x1, vR t1, vI (Int32.ofNat cs.length), vI 0] [(.ref x1)]))
  obtain ⟨T_48, X_48, e_48, st_48⟩ := getF X_47 hx hZ hown (host := "") (Or.inl (wd_32 hw)) Via.refl e_47 Fv46 (g := (mkF m 9 #[vR x1, vR t1, vI (Int32.ofNat cs.length), vI 0] [(.ref x1)])) rfl rfl (hb hby d_jdk_42_method_147_code_9)
  refine Go.step st_48 ?_
  show Go p e below _ (T_48.setTop (mkF m 12 #[vR x1, vR t1, vI (Int32.ofNat cs.length), vI 0] [(.ref t46)]))
  refine Go.step (fun _ k => XS.iconst X_48.here hx rfl (hb hby d_jdk_42_method_147_code_12) k) ?_
  refine Go.step (fun _ k => XS.aloadN X_48.here hx rfl (hb hby d_jdk_42_method_147_code_13) rfl rfl k) ?_
  refine Go.step (fun _ k => XS.iloadN X_48.here hx rfl (hb hby d_jdk_42_method_147_code_14) rfl  k) ?_
  refine Go.step (fun _ k => XS.iloadN X_48.here hx rfl (hb hby d_jdk_42_method_147_code_15) rfl  k) ?_
  show Go p e below _ (T_48.setTop (mkF m 16 #[vR x1, vR t1, vI (Int32.ofNat cs.length), vI 0] [(.int (0 : Int32)), (.int (Int32.ofNat cs.length)), (.ref t1), (.int (0 : Int32)), (.ref t46)]))
  refine Go.step (fun _ k => XS.ishl X_48.here hx rfl (hb hby d_jdk_42_method_147_code_16) rfl k) ?_
  show Go p e below _ (T_48.setTop (mkF m 17 #[vR x1, vR t1, vI (Int32.ofNat cs.length), vI 0] [(.int ((Int32.ofNat cs.length) <<< ((0 : Int32) &&& 31))), (.ref t1), (.int (0 : Int32)), (.ref t46)]))
  refine own_top (congrArg Value.int (show ((Int32.ofNat cs.length) <<< ((0 : Int32) &&& 31)) = (Int32.ofNat cs.length) from shl0 _)) ?_
  show Go p e below _ (T_48.setTop (mkF m 17 #[vR x1, vR t1, vI (Int32.ofNat cs.length), vI 0] [(.int (Int32.ofNat cs.length)), (.ref t1), (.int (0 : Int32)), (.ref t46)]))
  refine Go.step (fun _ k => XS.aloadN X_48.here hx rfl (hb hby d_jdk_42_method_147_code_17) rfl rfl k) ?_
  show Go p e below _ (T_48.setTop (mkF m 18 #[vR x1, vR t1, vI (Int32.ofNat cs.length), vI 0] [(.ref x1), (.int (Int32.ofNat cs.length)), (.ref t1), (.int (0 : Int32)), (.ref t46)]))
  obtain ⟨T_49, X_49, e_49, st_49⟩ := getF X_48 hx hZ hown (host := "") (Or.inl (wd_32 hw)) Via.refl e_48 Fv46 (g := (mkF m 18 #[vR x1, vR t1, vI (Int32.ofNat cs.length), vI 0] [(.ref x1), (.int (Int32.ofNat cs.length)), (.ref t1), (.int (0 : Int32)), (.ref t46)])) rfl rfl (hb hby d_jdk_42_method_147_code_18)
  refine Go.step st_49 ?_
  show Go p e below _ (T_49.setTop (mkF m 21 #[vR x1, vR t1, vI (Int32.ofNat cs.length), vI 0] [(.ref t46), (.int (Int32.ofNat cs.length)), (.ref t1), (.int (0 : Int32)), (.ref t46)]))
  have cp51 := Av46
  obtain ⟨cl_50, Ar_50, -, Sz_50, Ng_50, -, -⟩ := cp51
  refine Go.step (fun _ k => X_49.arraylength hx (by rw [e_49]; exact Ar_50.1) (State.isArrayOf_alike hZ.alike Ar_50.2.1) (g := (mkF m 21 #[vR x1, vR t1, vI (Int32.ofNat cs.length), vI 0] [(.ref t46), (.int (Int32.ofNat cs.length)), (.ref t1), (.int (0 : Int32)), (.ref t46)])) rfl rfl (hb hby d_jdk_42_method_147_code_21) _ k) ?_
  rw [len_of Sz_50 Ng_50]
  show Go p e below _ (T_49.setTop (mkF m 22 #[vR x1, vR t1, vI (Int32.ofNat cs.length), vI 0] [(.int (Int32.ofNat ds.length)), (.int (Int32.ofNat cs.length)), (.ref t1), (.int (0 : Int32)), (.ref t46)]))
  obtain ⟨T_52, h_52, L_52, X_52, e_52, N_52, K_52, V_52, st_52⟩ := cpA X_49 hx hZ hown (wd_170 hw) (wd_173 hw) (wd_171 hw) (wd_172 hw) e_49 Av46 A_t1 (sp := (0 : Int32)) (dp := (Int32.ofNat cs.length)) (nn := (Int32.ofNat ds.length)) (Or.inl ⟨rfl, rfl⟩) (by decide) (ofn_pos (by omega)) (ofn_pos (by omega)) (by rw [clampN (k := ds.length) (by omega)]; exact Nat.le_of_eq (Nat.zero_add _)) (by rw [hz, clampN (k := cs.length) (by omega), clampN (k := ds.length) (by omega), clampN (k := bs.length) (by omega)]; exact hN) rfl (by rw [clampN (k := cs.length) (by omega), clampN (k := ds.length) (by omega), List.length_map]; exact hN) N_47 g_t1 (g := (mkF m 22 #[vR x1, vR t1, vI (Int32.ofNat cs.length), vI 0] [(.int (Int32.ofNat ds.length)), (.int (Int32.ofNat cs.length)), (.ref t1), (.int (0 : Int32)), (.ref t46)])) rfl (by rw [hml]; rfl) (rest := []) rfl (hb hby d_jdk_42_method_147_code_22) (by decide) (W := 0) (by show 2 * 0 + _ ≤ _; exact Nat.le_of_eq rfl) (by decide)
  refine Go.step st_52 ?_
  have le_52 : h0.size ≤ h_52.size := K_52.1
  have KP_52 := KP0.trans K_52 (allS (Or.inl (List.mem_of_getElem? (i := 0) rfl)) all0)
  have O_52 := hO.keep K_52 (allS g_t1 all0)
  have A_52 : Arv Z h_52 t1 k1 .byte z1 ((insB bs cs ds).map Value.int) (.int (0 : Int32)) := by
    have q := V_52
    rw [cp_ins (by decide) (clampN (by omega)) (clampN (by omega))] at q
    exact q
  show Go p e below _ (T_52.setTop (mkF m 25 #[vR x1, vR t1, vI (Int32.ofNat cs.length), vI 0] []))
  refine Go.step (fun _ k => XS.goto X_52.here hx rfl (pc0 := 25) (pc' := 43) rfl (hb hby d_jdk_42_method_147_code_25) (by decide) (by decide) k) ?_
  show Go p e below _ (T_52.setTop (mkF m 43 #[vR x1, vR t1, vI (Int32.ofNat cs.length), vI 0] []))
  exact Go.ret0 X_52 hx hlk hret (hb hby d_jdk_42_method_147_code_43) (by decide) (by decide) (by rw [e_52]; exact ⟨rfl, N_52, KP_52, A_52⟩)
--@E
--@C psa
def Q_psa (Z : State) (zc : Int32) (vfm : Value) (vus : Value) (vss : Value) (a1 : Addr) (t1 : Addr) (k1 : ClassId) (z1 : Int32) (bs : List Int32) (cs : List Int32) (x1 : Addr) (ds : List Int32) (h0 : Heap) (n0 : Nat) (v : Option Value) (h : Heap) (L : List Loc) : Prop := v = none ∧ Fr n0 L ∧ Keep h0 h [t1] ∧ Arv Z h t1 k1 .byte z1 ((insB bs cs ds).map Value.int) (.int (0 : Int32))
set_option maxRecDepth 65536 in
set_option maxHeartbeats 40000000 in
theorem rm_psa (l : Launch) (Z : State) (a0 : Array Value) (hw : ∀ d ∈ tables_1, d.before a0 Z = true) (zc : Int32) (vfm : Value) (vus : Value) (vss : Value) (a1 : Addr) (t1 : Addr) (k1 : ClassId) (z1 : Int32) (bs : List Int32) (cs : List Int32) (x1 : Addr) (ds : List Int32) (h0 : Heap) (n0 : Nat) (Z0 : n0 ≤ h0.size) (E_a1 : Exa Z h0 a1 "java/lang/StringBuilder") (F_a1v : Fld Z h0 a1 "java/lang/AbstractStringBuilder" "value" "[B" (.ref t1)) (F_a1c : Fld Z h0 a1 "java/lang/AbstractStringBuilder" "coder" "B" (.int (0 : Int32))) (A_t1 : Arv Z h0 t1 k1 .byte z1 (bs.map Value.int) (.int (0 : Int32))) (g_t1 : n0 ≤ t1) (S_x1 : Str Z h0.size h0 x1 ds) (hz : (z1 = Int32.ofNat bs.length)) (hbs : (bs.length ≤ 100)) (hN : (cs.length + ds.length ≤ bs.length)) (hSt : St Z zc vfm vus vss) (hO : Old Z n0 h0) :
    CN l Z ({ cls := "java/lang/AbstractStringBuilder", name := "putStringAt", desc := "(ILjava/lang/String;)V" } : Jvm.MethodName) [(Jvm.Cond.code ({ cls := "java/lang/AbstractStringBuilder", name := "putStringAt", desc := "(ILjava/lang/String;)V" } : Jvm.MethodName) jdk_68_method_73_code (3 : Nat) (Option.none : Option Jvm.ClassFile.FieldType))] ({ frames := 2, cells := 0, slots := 0, locals := 33 } : Room) #[(.ref a1), (.int (Int32.ofNat cs.length)), (.ref x1)] h0 (Q_psa Z zc vfm vus vss a1 t1 k1 z1 bs cs x1 ds h0 n0) := by
  refine CN.of (L0 := #[vR a1, vI (Int32.ofNat cs.length), vR x1]) (plainFor_of_name pn_5) (fun m => by first | (simp [entryFrame, mkF, argsToLocals, Value.category]; done) | rfl) ?_
  intro p e s m below meth c s₁ hx hby hml hret hlk hZ hown hnm X0 e0
  have N0 := Fr.nil n0
  have KP0 := Keep.refl h0 [t1]
  have hSt_ := hSt
  obtain ⟨S_cs, n_cs, S_fm, r_fm, S_us, r_us, S_ss, r_ss⟩ := hSt_
  show Go p e below _ (s₁.setTop (mkF m 0 #[vR a1, vI (Int32.ofNat cs.length), vR x1] []))
  refine Go.step (fun _ k => XS.aloadN X0.here hx rfl (hb hby d_jdk_68_method_73_code_0) rfl rfl k) ?_
  refine Go.step (fun _ k => XS.aloadN X0.here hx rfl (hb hby d_jdk_68_method_73_code_1) rfl rfl k) ?_
  show Go p e below _ (s₁.setTop (mkF m 2 #[vR a1, vI (Int32.ofNat cs.length), vR x1] [(.ref x1), (.ref a1)]))
  obtain ⟨v_53, T_53, L_53, X_53, hQ_53, st_53⟩ := goP X0 hx hZ (y := Y_6) hown (wd_159 hw) (wd_160 hw) (sel_priv (wd_162 hw) (Cond.privateMethod_at (wd_161 hw)) (wd_160 hw) (by decide)) (wd_161 hw) (wd_163 hw) (by decide) (backOf (W := 0) (rm_inf l Z a0 hw zc vfm vus vss (a1) (x1) (ds) h0 n0 (Nat.le_trans Z0 KP0.1) F_a1c S_x1 hSt hO) hZ (wd_163 hw) (wd_119 hw) (by decide) (by decide)) e0 E_a1 (g := (mkF m 2 #[vR a1, vI (Int32.ofNat cs.length), vR x1] [(.ref x1), (.ref a1)])) rfl (by rw [hml]; rfl) (argsL := [(.ref x1)]) (rest := []) rfl (lenOf pd_0 rfl) rfl (by show 2 * 0 + _ ≤ _; exact Nat.le_of_eq rfl) (hb hby d_jdk_68_method_73_code_2) (by decide) (by decide)
  obtain ⟨rfl, Nq_53, e_53⟩ := hQ_53
  have N_53 := Fr.app N0 Nq_53
  refine Go.step st_53 ?_
  show Go p e below _ (T_53.setTop (mkF m 5 #[vR a1, vI (Int32.ofNat cs.length), vR x1] []))
  refine Go.step (fun _ k => XS.aloadN X_53.here hx rfl (hb hby d_jdk_68_method_73_code_5) rfl rfl k) ?_
  refine Go.step (fun _ k => XS.aloadN X_53.here hx rfl (hb hby d_jdk_68_method_73_code_6) rfl rfl k) ?_
  show Go p e below _ (T_53.setTop (mkF m 7 #[vR a1, vI (Int32.ofNat cs.length), vR x1] [(.ref a1), (.ref x1)]))
  obtain ⟨T_54, X_54, e_54, st_54⟩ := getF X_53 hx hZ hown (host := "") (Or.inl (wd_123 hw)) Via.refl e_53 F_a1v (g := (mkF m 7 #[vR a1, vI (Int32.ofNat cs.length), vR x1] [(.ref a1), (.ref x1)])) rfl rfl (hb hby d_jdk_68_method_73_code_7)
  refine Go.step st_54 ?_
  show Go p e below _ (T_54.setTop (mkF m 10 #[vR a1, vI (Int32.ofNat cs.length), vR x1] [(.ref t1), (.ref x1)]))
  refine Go.step (fun _ k => XS.iloadN X_54.here hx rfl (hb hby d_jdk_68_method_73_code_10) rfl  k) ?_
  refine Go.step (fun _ k => XS.aloadN X_54.here hx rfl (hb hby d_jdk_68_method_73_code_11) rfl rfl k) ?_
  show Go p e below _ (T_54.setTop (mkF m 12 #[vR a1, vI (Int32.ofNat cs.length), vR x1] [(.ref a1), (.int (Int32.ofNat cs.length)), (.ref t1), (.ref x1)]))
  obtain ⟨T_55, X_55, e_55, st_55⟩ := getF X_54 hx hZ hown (host := "") (Or.inl (wd_125 hw)) Via.refl e_54 F_a1c (g := (mkF m 12 #[vR a1, vI (Int32.ofNat cs.length), vR x1] [(.ref a1), (.int (Int32.ofNat cs.length)), (.ref t1), (.ref x1)])) rfl rfl (hb hby d_jdk_68_method_73_code_12)
  refine Go.step st_55 ?_
  show Go p e below _ (T_55.setTop (mkF m 15 #[vR a1, vI (Int32.ofNat cs.length), vR x1] [(.int (0 : Int32)), (.int (Int32.ofNat cs.length)), (.ref t1), (.ref x1)]))
  obtain ⟨v_56, T_56, L_56, X_56, hQ_56, st_56⟩ := goV X_55 hx hZ (y := Y_7) (z := Y_7) hown (wd_165 hw) (wd_166 hw) (notFace_of_selects (args := #[]) (mvT hZ (wd_168 hw))) (wd_168 hw) (wd_167 hw) (by decide) (backOf (W := 0) (rm_gby l Z a0 hw zc vfm vus vss (t1) (k1) (z1) (bs) (cs) (x1) (ds) h0 n0 (Nat.le_trans Z0 KP0.1) A_t1 g_t1 S_x1 hz hbs hN hSt hO) hZ (wd_169 hw) (wd_6 hw) (by decide) (by decide)) e_55 S_x1.exa (g := (mkF m 15 #[vR a1, vI (Int32.ofNat cs.length), vR x1] [(.int (0 : Int32)), (.int (Int32.ofNat cs.length)), (.ref t1), (.ref x1)])) rfl (by rw [hml]; rfl) (argsL := [(.ref t1), (.int (Int32.ofNat cs.length)), (.int (0 : Int32))]) (rest := []) rfl (lenOf pd_3 rfl) rfl (by show 2 * 0 + _ ≤ _; exact Nat.le_of_eq rfl) (hb hby d_jdk_68_method_73_code_15) (by decide) (by decide)
  obtain ⟨rfl, Nq_56, K_56, u0_56⟩ := hQ_56
  have N_56 := Fr.app N_53 Nq_56
  have le_56 : h0.size ≤ T_56.heap.size := K_56.1
  have KP_56 := KP0.trans K_56 (allS (Or.inl (List.mem_of_getElem? (i := 0) rfl)) all0)
  have O_56 := hO.keep K_56 (allS g_t1 all0)
  refine Go.step st_56 ?_
  show Go p e below _ (T_56.setTop (mkF m 18 #[vR a1, vI (Int32.ofNat cs.length), vR x1] []))
  exact Go.ret0 X_56 hx hlk hret (hb hby d_jdk_68_method_73_code_18) (by decide) (by decide) (by exact ⟨rfl, N_56, KP_56, u0_56⟩)
--@E
--@C ecN
def Q_ecN (Z : State) (zc : Int32) (vfm : Value) (vus : Value) (vss : Value) (a1 : Addr) (t1 : Addr) (k1 : ClassId) (bs : List Int32) (m1 : Nat) (h0 : Heap) (n0 : Nat) (v : Option Value) (h : Heap) (L : List Loc) : Prop := v = none ∧ Fr n0 L ∧ h = h0
set_option maxRecDepth 65536 in
set_option maxHeartbeats 40000000 in
theorem rm_ecN (l : Launch) (Z : State) (a0 : Array Value) (hw : ∀ d ∈ tables_1, d.before a0 Z = true) (zc : Int32) (vfm : Value) (vus : Value) (vss : Value) (a1 : Addr) (t1 : Addr) (k1 : ClassId) (bs : List Int32) (m1 : Nat) (h0 : Heap) (n0 : Nat) (Z0 : n0 ≤ h0.size) (E_a1 : Exa Z h0 a1 "java/lang/StringBuilder") (F_a1v : Fld Z h0 a1 "java/lang/AbstractStringBuilder" "value" "[B" (.ref t1)) (F_a1c : Fld Z h0 a1 "java/lang/AbstractStringBuilder" "coder" "B" (.int (0 : Int32))) (A_t1 : Arv Z h0 t1 k1 .byte (16 : Int32) (bs.map Value.int) (.int (0 : Int32))) (hm : (m1 ≤ 16)) (hSt : St Z zc vfm vus vss) (hO : Old Z n0 h0) :
    CN l Z ({ cls := "java/lang/AbstractStringBuilder", name := "ensureCapacityInternal", desc := "(I)V" } : Jvm.MethodName) [(Jvm.Cond.code ({ cls := "java/lang/AbstractStringBuilder", name := "ensureCapacityInternal", desc := "(I)V" } : Jvm.MethodName) jdk_68_method_9_code (3 : Nat) (Option.none : Option Jvm.ClassFile.FieldType))] ({ frames := 0, cells := 0, slots := 0, locals := 0 } : Room) #[(.ref a1), (.int (Int32.ofNat m1))] h0 (Q_ecN Z zc vfm vus vss a1 t1 k1 bs m1 h0 n0) := by
  refine CN.of (L0 := #[vR a1, vI (Int32.ofNat m1), vU]) (plainFor_of_name pn_5) (fun m => by first | (simp [entryFrame, mkF, argsToLocals, Value.category]; done) | rfl) ?_
  intro p e s m below meth c s₁ hx hby hml hret hlk hZ hown hnm X0 e0
  have N0 := Fr.nil n0
  have KP0 := Keep.refl h0 []
  have hSt_ := hSt
  obtain ⟨S_cs, n_cs, S_fm, r_fm, S_us, r_us, S_ss, r_ss⟩ := hSt_
  show Go p e below _ (s₁.setTop (mkF m 0 #[vR a1, vI (Int32.ofNat m1), vU] []))
  refine Go.step (fun _ k => XS.aloadN X0.here hx rfl (hb hby d_jdk_68_method_9_code_0) rfl rfl k) ?_
  show Go p e below _ (s₁.setTop (mkF m 1 #[vR a1, vI (Int32.ofNat m1), vU] [(.ref a1)]))
  obtain ⟨T_57, X_57, e_57, st_57⟩ := getF X0 hx hZ hown (host := "") (Or.inl (wd_123 hw)) Via.refl e0 F_a1v (g := (mkF m 1 #[vR a1, vI (Int32.ofNat m1), vU] [(.ref a1)])) rfl rfl (hb hby d_jdk_68_method_9_code_1)
  refine Go.step st_57 ?_
  show Go p e below _ (T_57.setTop (mkF m 4 #[vR a1, vI (Int32.ofNat m1), vU] [(.ref t1)]))
  have cp59 := A_t1
  obtain ⟨cl_58, Ar_58, -, Sz_58, Ng_58, -, -⟩ := cp59
  refine Go.step (fun _ k => X_57.arraylength hx (by rw [e_57]; exact Ar_58.1) (State.isArrayOf_alike hZ.alike Ar_58.2.1) (g := (mkF m 4 #[vR a1, vI (Int32.ofNat m1), vU] [(.ref t1)])) rfl rfl (hb hby d_jdk_68_method_9_code_4) _ k) ?_
  rw [len_of Sz_58 Ng_58]
  show Go p e below _ (T_57.setTop (mkF m 5 #[vR a1, vI (Int32.ofNat m1), vU] [(.int (16 : Int32))]))
  refine Go.step (fun _ k => XS.aloadN X_57.here hx rfl (hb hby d_jdk_68_method_9_code_5) rfl rfl k) ?_
  show Go p e below _ (T_57.setTop (mkF m 6 #[vR a1, vI (Int32.ofNat m1), vU] [(.ref a1), (.int (16 : Int32))]))
  obtain ⟨T_60, X_60, e_60, st_60⟩ := getF X_57 hx hZ hown (host := "") (Or.inl (wd_125 hw)) Via.refl e_57 F_a1c (g := (mkF m 6 #[vR a1, vI (Int32.ofNat m1), vU] [(.ref a1), (.int (16 : Int32))])) rfl rfl (hb hby d_jdk_68_method_9_code_6)
  refine Go.step st_60 ?_
  show Go p e below _ (T_60.setTop (mkF m 9 #[vR a1, vI (Int32.ofNat m1), vU] [(.int (0 : Int32)), (.int (16 : Int32))]))
  refine Go.step (fun _ k => XS.ishr X_60.here hx rfl (hb hby d_jdk_68_method_9_code_9) rfl k) ?_
  show Go p e below _ (T_60.setTop (mkF m 10 #[vR a1, vI (Int32.ofNat m1), vU] [(.int ((16 : Int32) >>> ((0 : Int32) &&& 31)))]))
  refine own_top (congrArg Value.int (show ((16 : Int32) >>> ((0 : Int32) &&& 31)) = (16 : Int32) from by decide)) ?_
  show Go p e below _ (T_60.setTop (mkF m 10 #[vR a1, vI (Int32.ofNat m1), vU] [(.int (16 : Int32))]))
  refine Go.step (fun _ k => XS.istoreN X_60.here hx rfl (hb hby d_jdk_68_method_9_code_10) rfl (l' := #[vR a1, vI (Int32.ofNat m1), vI 16]) rfl k) ?_
  show Go p e below _ (T_60.setTop (mkF m 11 #[vR a1, vI (Int32.ofNat m1), vI 16] []))
  refine Go.step (fun _ k => XS.iloadN X_60.here hx rfl (hb hby d_jdk_68_method_9_code_11) rfl  k) ?_
  refine Go.step (fun _ k => XS.iloadN X_60.here hx rfl (hb hby d_jdk_68_method_9_code_12) rfl  k) ?_
  show Go p e below _ (T_60.setTop (mkF m 13 #[vR a1, vI (Int32.ofNat m1), vI 16] [(.int (16 : Int32)), (.int (Int32.ofNat m1))]))
  refine Go.step (fun _ k => XS.isub X_60.here hx rfl (hb hby d_jdk_68_method_9_code_13) rfl k) ?_
  show Go p e below _ (T_60.setTop (mkF m 14 #[vR a1, vI (Int32.ofNat m1), vI 16] [(.int ((Int32.ofNat m1) - (16 : Int32)))]))
  refine Go.step (fun _ k => XS.ifYes X_60.here hx rfl (pc0 := 14) (pc' := 38) rfl (hb hby d_jdk_68_method_9_code_14) rfl ((if0 _ _).trans (flt ((ng_of hm) : ¬ ((0 : Int32) < ((Int32.ofNat m1) - (16 : Int32))))).2.2.2) (by decide) (by decide) k) ?_
  show Go p e below _ (T_60.setTop (mkF m 38 #[vR a1, vI (Int32.ofNat m1), vI 16] []))
  exact Go.ret0 X_60 hx hlk hret (hb hby d_jdk_68_method_9_code_38) (by decide) (by decide) (by rw [e_60]; exact ⟨rfl, N0, rfl⟩)
--@E
--@C abaN
def Q_abaN (Z : State) (zc : Int32) (vfm : Value) (vus : Value) (vss : Value) (a1 : Addr) (t1 : Addr) (k1 : ClassId) (bs : List Int32) (cs : List Int32) (x1 : Addr) (ds : List Int32) (h0 : Heap) (n0 : Nat) (v : Option Value) (h : Heap) (L : List Loc) : Prop := v = some (.ref a1) ∧ Fr n0 L ∧ Keep h0 h [a1, t1] ∧ Fld Z h a1 "java/lang/AbstractStringBuilder" "value" "[B" (.ref t1) ∧ Fld Z h a1 "java/lang/AbstractStringBuilder" "coder" "B" (.int (0 : Int32)) ∧ Fld Z h a1 "java/lang/AbstractStringBuilder" "count" "I" (.int (Int32.ofNat (cs ++ ds).length)) ∧ Arv Z h t1 k1 .byte (16 : Int32) ((insB bs cs ds).map Value.int) (.int (0 : Int32))
set_option maxRecDepth 65536 in
set_option maxHeartbeats 40000000 in
theorem rm_abaN (l : Launch) (Z : State) (a0 : Array Value) (hw : ∀ d ∈ tables_1, d.before a0 Z = true) (zc : Int32) (vfm : Value) (vus : Value) (vss : Value) (a1 : Addr) (t1 : Addr) (k1 : ClassId) (bs : List Int32) (cs : List Int32) (x1 : Addr) (ds : List Int32) (h0 : Heap) (n0 : Nat) (Z0 : n0 ≤ h0.size) (E_a1 : Exa Z h0 a1 "java/lang/StringBuilder") (F_a1v : Fld Z h0 a1 "java/lang/AbstractStringBuilder" "value" "[B" (.ref t1)) (F_a1c : Fld Z h0 a1 "java/lang/AbstractStringBuilder" "coder" "B" (.int (0 : Int32))) (F_a1n : Fld Z h0 a1 "java/lang/AbstractStringBuilder" "count" "I" (.int (Int32.ofNat cs.length))) (A_t1 : Arv Z h0 t1 k1 .byte (16 : Int32) (bs.map Value.int) (.int (0 : Int32))) (g_a1 : n0 ≤ a1) (g_t1 : n0 ≤ t1) (S_x1 : Str Z h0.size h0 x1 ds) (hbs : (bs.length = 16)) (hN : (cs.length + ds.length ≤ 16)) (hSt : St Z zc vfm vus vss) (hO : Old Z n0 h0) :
    CN l Z ({ cls := "java/lang/AbstractStringBuilder", name := "append", desc := "(Ljava/lang/String;)Ljava/lang/AbstractStringBuilder;" } : Jvm.MethodName) [(Jvm.Cond.code ({ cls := "java/lang/AbstractStringBuilder", name := "append", desc := "(Ljava/lang/String;)Ljava/lang/AbstractStringBuilder;" } : Jvm.MethodName) jdk_68_method_22_code (3 : Nat) (Option.some (Jvm.ClassFile.FieldType.object "java/lang/AbstractStringBuilder")))] ({ frames := 3, cells := 0, slots := 0, locals := 47 } : Room) #[(.ref a1), (.ref x1)] h0 (Q_abaN Z zc vfm vus vss a1 t1 k1 bs cs x1 ds h0 n0) := by
  refine CN.of (L0 := #[vR a1, vR x1, vU]) (plainFor_of_name pn_5) (fun m => by first | (simp [entryFrame, mkF, argsToLocals, Value.category]; done) | rfl) ?_
  intro p e s m below meth c s₁ hx hby hml hret hlk hZ hown hnm X0 e0
  have N0 := Fr.nil n0
  have KP0 := Keep.refl h0 [a1, t1]
  have hSt_ := hSt
  obtain ⟨S_cs, n_cs, S_fm, r_fm, S_us, r_us, S_ss, r_ss⟩ := hSt_
  show Go p e below _ (s₁.setTop (mkF m 0 #[vR a1, vR x1, vU] []))
  have cp61 := S_x1
  obtain ⟨t62, kb62, -, hb62, Ex62, Fv62, Fc62, Av62, hl62, hn62⟩ := cp61
  refine Go.step (fun _ k => XS.aloadN X0.here hx rfl (hb hby d_jdk_68_method_22_code_0) rfl rfl k) ?_
  show Go p e below _ (s₁.setTop (mkF m 1 #[vR a1, vR x1, vU] [(.ref x1)]))
  refine Go.step (fun _ k => XS.ifnonnullYes X0.here hx rfl (pc0 := 1) (pc' := 9) rfl (hb hby d_jdk_68_method_22_code_1) rfl (by decide) (by decide) k) ?_
  show Go p e below _ (s₁.setTop (mkF m 9 #[vR a1, vR x1, vU] []))
  refine Go.step (fun _ k => XS.aloadN X0.here hx rfl (hb hby d_jdk_68_method_22_code_9) rfl rfl k) ?_
  show Go p e below _ (s₁.setTop (mkF m 10 #[vR a1, vR x1, vU] [(.ref x1)]))
  have cp63 := S_x1
  obtain ⟨t64, kb64, -, -, Ex64, Fv64, Fc64, Av64, hl64, hn64⟩ := cp63
  obtain ⟨v_65, T_65, L_65, X_65, hQ_65, st_65⟩ := goV X0 hx hZ (y := Y_8) (z := Y_8) (kc := 0) (ks := 0) (QQ := fun v h' L => v = some (.int (Int32.ofNat ds.length)) ∧ L = [] ∧ h' = h0) hown (wd_137 hw) (wd_138 hw) (notFace_of_selects (args := #[]) (mvT hZ (wd_140 hw))) (wd_140 hw) (wd_139 hw) (by decide) (StrChars.Road.lenW (W := 0) hZ (sw_wordsLen hw) (kI := 4) (wd_5 hw) Ex64 Fv64 Fc64 Av64 (StrChars.Road.codOf rfl (fun c hc => (hl64 c hc).2)) (up255 hl64) (S_cs.ext hO.2) n_cs hn64 (by decide) (by decide)) e0 Ex64 (g := (mkF m 10 #[vR a1, vR x1, vU] [(.ref x1)])) rfl (by rw [hml]; rfl) (argsL := []) (rest := []) rfl (lenOf pd_4 rfl) rfl (by show 2 * 0 + _ ≤ _; exact Nat.le_of_eq rfl) (hb hby d_jdk_68_method_22_code_10) (by decide) (by decide)
  obtain ⟨rfl, rfl, e_65⟩ := hQ_65
  have N_65 := Fr.app N0 (Fr.nil n0)
  refine Go.step st_65 ?_
  show Go p e below _ (T_65.setTop (mkF m 13 #[vR a1, vR x1, vU] [(.int (Int32.ofNat ds.length))]))
  refine Go.step (fun _ k => XS.istoreN X_65.here hx rfl (hb hby d_jdk_68_method_22_code_13) rfl (l' := #[vR a1, vR x1, vI (Int32.ofNat ds.length)]) rfl k) ?_
  show Go p e below _ (T_65.setTop (mkF m 14 #[vR a1, vR x1, vI (Int32.ofNat ds.length)] []))
  refine Go.step (fun _ k => XS.aloadN X_65.here hx rfl (hb hby d_jdk_68_method_22_code_14) rfl rfl k) ?_
  refine Go.step (fun _ k => XS.aloadN X_65.here hx rfl (hb hby d_jdk_68_method_22_code_15) rfl rfl k) ?_
  show Go p e below _ (T_65.setTop (mkF m 16 #[vR a1, vR x1, vI (Int32.ofNat ds.length)] [(.ref a1), (.ref a1)]))
  obtain ⟨T_66, X_66, e_66, st_66⟩ := getF X_65 hx hZ hown (host := "") (Or.inl (wd_147 hw)) Via.refl e_65 F_a1n (g := (mkF m 16 #[vR a1, vR x1, vI (Int32.ofNat ds.length)] [(.ref a1), (.ref a1)])) rfl rfl (hb hby d_jdk_68_method_22_code_16)
  refine Go.step st_66 ?_
  show Go p e below _ (T_66.setTop (mkF m 19 #[vR a1, vR x1, vI (Int32.ofNat ds.length)] [(.int (Int32.ofNat cs.length)), (.ref a1)]))
  refine Go.step (fun _ k => XS.iloadN X_66.here hx rfl (hb hby d_jdk_68_method_22_code_19) rfl  k) ?_
  show Go p e below _ (T_66.setTop (mkF m 20 #[vR a1, vR x1, vI (Int32.ofNat ds.length)] [(.int (Int32.ofNat ds.length)), (.int (Int32.ofNat cs.length)), (.ref a1)]))
  refine Go.step (fun _ k => XS.iadd X_66.here hx rfl (hb hby d_jdk_68_method_22_code_20) rfl k) ?_
  show Go p e below _ (T_66.setTop (mkF m 21 #[vR a1, vR x1, vI (Int32.ofNat ds.length)] [(.int ((Int32.ofNat cs.length) + (Int32.ofNat ds.length))), (.ref a1)]))
  refine own_top (congrArg Value.int (show ((Int32.ofNat cs.length) + (Int32.ofNat ds.length)) = (Int32.ofNat (cs ++ ds).length) from len_app cs ds)) ?_
  show Go p e below _ (T_66.setTop (mkF m 21 #[vR a1, vR x1, vI (Int32.ofNat ds.length)] [(.int (Int32.ofNat (cs ++ ds).length)), (.ref a1)]))
  obtain ⟨v_67, T_67, L_67, X_67, hQ_67, st_67⟩ := goP X_66 hx hZ (y := Y_9) hown (wd_149 hw) (wd_150 hw) (sel_priv (wd_152 hw) (Cond.privateMethod_at (wd_151 hw)) (wd_150 hw) (by decide)) (wd_151 hw) (wd_153 hw) (by decide) (backOf (W := 0) (rm_ecN l Z a0 hw zc vfm vus vss (a1) (t1) (k1) (bs) ((cs ++ ds).length) h0 n0 (Nat.le_trans Z0 KP0.1) E_a1 F_a1v F_a1c A_t1 (by rw [List.length_append]; exact hN) hSt hO) hZ (wd_153 hw) (wd_119 hw) (by decide) (by decide)) e_66 E_a1 (g := (mkF m 21 #[vR a1, vR x1, vI (Int32.ofNat ds.length)] [(.int (Int32.ofNat (cs ++ ds).length)), (.ref a1)])) rfl (by rw [hml]; rfl) (argsL := [(.int (Int32.ofNat (cs ++ ds).length))]) (rest := []) rfl (lenOf pd_1 rfl) rfl (by show 2 * 0 + _ ≤ _; exact Nat.le_of_eq rfl) (hb hby d_jdk_68_method_22_code_21) (by decide) (by decide)
  obtain ⟨rfl, Nq_67, e_67⟩ := hQ_67
  have N_67 := Fr.app N_65 Nq_67
  refine Go.step st_67 ?_
  show Go p e below _ (T_67.setTop (mkF m 24 #[vR a1, vR x1, vI (Int32.ofNat ds.length)] []))
  refine Go.step (fun _ k => XS.aloadN X_67.here hx rfl (hb hby d_jdk_68_method_22_code_24) rfl rfl k) ?_
  refine Go.step (fun _ k => XS.aloadN X_67.here hx rfl (hb hby d_jdk_68_method_22_code_25) rfl rfl k) ?_
  show Go p e below _ (T_67.setTop (mkF m 26 #[vR a1, vR x1, vI (Int32.ofNat ds.length)] [(.ref a1), (.ref a1)]))
  obtain ⟨T_68, X_68, e_68, st_68⟩ := getF X_67 hx hZ hown (host := "") (Or.inl (wd_147 hw)) Via.refl e_67 F_a1n (g := (mkF m 26 #[vR a1, vR x1, vI (Int32.ofNat ds.length)] [(.ref a1), (.ref a1)])) rfl rfl (hb hby d_jdk_68_method_22_code_26)
  refine Go.step st_68 ?_
  show Go p e below _ (T_68.setTop (mkF m 29 #[vR a1, vR x1, vI (Int32.ofNat ds.length)] [(.int (Int32.ofNat cs.length)), (.ref a1)]))
  refine Go.step (fun _ k => XS.aloadN X_68.here hx rfl (hb hby d_jdk_68_method_22_code_29) rfl rfl k) ?_
  show Go p e below _ (T_68.setTop (mkF m 30 #[vR a1, vR x1, vI (Int32.ofNat ds.length)] [(.ref x1), (.int (Int32.ofNat cs.length)), (.ref a1)]))
  obtain ⟨v_69, T_69, L_69, X_69, hQ_69, st_69⟩ := goP X_68 hx hZ (y := Y_10) hown (wd_154 hw) (wd_155 hw) (sel_priv (wd_157 hw) (Cond.privateMethod_at (wd_156 hw)) (wd_155 hw) (by decide)) (wd_156 hw) (wd_158 hw) (by decide) (backOf (W := 0) (rm_psa l Z a0 hw zc vfm vus vss (a1) (t1) (k1) ((16 : Int32)) (bs) (cs) (x1) (ds) h0 n0 (Nat.le_trans Z0 KP0.1) E_a1 F_a1v F_a1c A_t1 g_t1 S_x1 (by rw [hbs]; rfl) (by rw [hbs]; decide) (by rw [hbs]; exact hN) hSt hO) hZ (wd_158 hw) (wd_119 hw) (by decide) (by decide)) e_68 E_a1 (g := (mkF m 30 #[vR a1, vR x1, vI (Int32.ofNat ds.length)] [(.ref x1), (.int (Int32.ofNat cs.length)), (.ref a1)])) rfl (by rw [hml]; rfl) (argsL := [(.int (Int32.ofNat cs.length)), (.ref x1)]) (rest := []) rfl (lenOf pd_5 rfl) rfl (by show 2 * 0 + _ ≤ _; exact Nat.le_of_eq rfl) (hb hby d_jdk_68_method_22_code_30) (by decide) (by decide)
  obtain ⟨rfl, Nq_69, K_69, u0_69⟩ := hQ_69
  have N_69 := Fr.app N_67 Nq_69
  have le_69 : h0.size ≤ T_69.heap.size := K_69.1
  have KP_69 := KP0.trans K_69 (allS (Or.inl (List.mem_of_getElem? (i := 1) rfl)) all0)
  have O_69 := hO.keep K_69 (allS g_t1 all0)
  refine Go.step st_69 ?_
  show Go p e below _ (T_69.setTop (mkF m 33 #[vR a1, vR x1, vI (Int32.ofNat ds.length)] []))
  refine Go.step (fun _ k => XS.aloadN X_69.here hx rfl (hb hby d_jdk_68_method_22_code_33) rfl rfl k) ?_
  refine Go.step (fun _ k => XS.dup X_69.here hx rfl (hb hby d_jdk_68_method_22_code_34) rfl rfl k) ?_
  show Go p e below _ (T_69.setTop (mkF m 35 #[vR a1, vR x1, vI (Int32.ofNat ds.length)] [(.ref a1), (.ref a1)]))
  have f70 : Fld Z T_69.heap a1 "java/lang/AbstractStringBuilder" "count" "I" (.int (Int32.ofNat cs.length)) := (F_a1n.keep K_69 (ninS (Exa.neArv E_a1 A_t1 (wd_110 hw)) nin0))
  obtain ⟨T_71, X_71, e_71, st_71⟩ := getF X_69 hx hZ hown (host := "") (Or.inl (wd_147 hw)) Via.refl rfl f70 (g := (mkF m 35 #[vR a1, vR x1, vI (Int32.ofNat ds.length)] [(.ref a1), (.ref a1)])) rfl rfl (hb hby d_jdk_68_method_22_code_35)
  refine Go.step st_71 ?_
  show Go p e below _ (T_71.setTop (mkF m 38 #[vR a1, vR x1, vI (Int32.ofNat ds.length)] [(.int (Int32.ofNat cs.length)), (.ref a1)]))
  refine Go.step (fun _ k => XS.iloadN X_71.here hx rfl (hb hby d_jdk_68_method_22_code_38) rfl  k) ?_
  show Go p e below _ (T_71.setTop (mkF m 39 #[vR a1, vR x1, vI (Int32.ofNat ds.length)] [(.int (Int32.ofNat ds.length)), (.int (Int32.ofNat cs.length)), (.ref a1)]))
  refine Go.step (fun _ k => XS.iadd X_71.here hx rfl (hb hby d_jdk_68_method_22_code_39) rfl k) ?_
  show Go p e below _ (T_71.setTop (mkF m 40 #[vR a1, vR x1, vI (Int32.ofNat ds.length)] [(.int ((Int32.ofNat cs.length) + (Int32.ofNat ds.length))), (.ref a1)]))
  refine own_top (congrArg Value.int (show ((Int32.ofNat cs.length) + (Int32.ofNat ds.length)) = (Int32.ofNat (cs ++ ds).length) from len_app cs ds)) ?_
  show Go p e below _ (T_71.setTop (mkF m 40 #[vR a1, vR x1, vI (Int32.ofNat ds.length)] [(.int (Int32.ofNat (cs ++ ds).length)), (.ref a1)]))
  have f72 : Exa Z T_69.heap a1 "java/lang/StringBuilder" := (E_a1.keep K_69)
  obtain ⟨T_73, h_73, X_73, e_73, W_73, st_73⟩ := putF X_71 hx hZ hown (host := "") (Or.inl (wd_147 hw)) Via.refl e_71 f70 f72 (Or.inl (wd_148 hw)) (wd_110 hw) (ty := .int) pf_7 rfl rfl (g := (mkF m 40 #[vR a1, vR x1, vI (Int32.ofNat ds.length)] [(.int (Int32.ofNat (cs ++ ds).length)), (.ref a1)])) rfl rfl (hb hby d_jdk_68_method_22_code_40)
  refine Go.step st_73 ?_
  have N_73 := Fr.snoc X_73 N_69 g_a1
  have le_73 : T_69.heap.size ≤ h_73.size := Nat.le_of_eq W_73.size.symm
  have KP_73 := KP_69.wr W_73 (Or.inl (List.mem_of_getElem? (i := 0) rfl))
  have O_73 := O_69.wr W_73 g_a1
  have F_73 : Fld Z h_73 a1 "java/lang/AbstractStringBuilder" "count" "I" (.int (Int32.ofNat (cs ++ ds).length)) := f70.same W_73
  show Go p e below _ (T_73.setTop (mkF m 43 #[vR a1, vR x1, vI (Int32.ofNat ds.length)] []))
  refine Go.step (fun _ k => XS.aloadN X_73.here hx rfl (hb hby d_jdk_68_method_22_code_43) rfl rfl k) ?_
  show Go p e below _ (T_73.setTop (mkF m 44 #[vR a1, vR x1, vI (Int32.ofNat ds.length)] [(.ref a1)]))
  have f74 : Fld Z h_73 a1 "java/lang/AbstractStringBuilder" "value" "[B" (.ref t1) := ((F_a1v.keep K_69 (ninS (Exa.neArv E_a1 A_t1 (wd_110 hw)) nin0)).other W_73 (Or.inr (sn_14 hw)))
  have f75 : Fld Z h_73 a1 "java/lang/AbstractStringBuilder" "coder" "B" (.int (0 : Int32)) := ((F_a1c.keep K_69 (ninS (Exa.neArv E_a1 A_t1 (wd_110 hw)) nin0)).other W_73 (Or.inr (sn_15 hw)))
  have f76 : Arv Z h_73 t1 k1 .byte (16 : Int32) ((insB bs cs ds).map Value.int) (.int (0 : Int32)) := (u0_69.other W_73 (Ne.symm (Exa.neArv E_a1 A_t1 (wd_110 hw))))
  exact Go.retV X_73 hx hlk hret rfl (Or.inr (Or.inr (Or.inr (Or.inr ⟨rfl, rfl, rfl⟩)))) (hb hby d_jdk_68_method_22_code_44) (by decide) (by decide) (by rw [e_73]; exact ⟨rfl, N_73, KP_73, f74, f75, F_73, f76⟩)
--@E
--@C sbaN
def Q_sbaN (Z : State) (zc : Int32) (vfm : Value) (vus : Value) (vss : Value) (a1 : Addr) (t1 : Addr) (k1 : ClassId) (bs : List Int32) (cs : List Int32) (x1 : Addr) (ds : List Int32) (h0 : Heap) (n0 : Nat) (v : Option Value) (h : Heap) (L : List Loc) : Prop := v = some (.ref a1) ∧ Fr n0 L ∧ Keep h0 h [a1, t1] ∧ Fld Z h a1 "java/lang/AbstractStringBuilder" "value" "[B" (.ref t1) ∧ Fld Z h a1 "java/lang/AbstractStringBuilder" "coder" "B" (.int (0 : Int32)) ∧ Fld Z h a1 "java/lang/AbstractStringBuilder" "count" "I" (.int (Int32.ofNat (cs ++ ds).length)) ∧ Arv Z h t1 k1 .byte (16 : Int32) ((insB bs cs ds).map Value.int) (.int (0 : Int32))
set_option maxRecDepth 65536 in
set_option maxHeartbeats 40000000 in
theorem rm_sbaN (l : Launch) (Z : State) (a0 : Array Value) (hw : ∀ d ∈ tables_1, d.before a0 Z = true) (zc : Int32) (vfm : Value) (vus : Value) (vss : Value) (a1 : Addr) (t1 : Addr) (k1 : ClassId) (bs : List Int32) (cs : List Int32) (x1 : Addr) (ds : List Int32) (h0 : Heap) (n0 : Nat) (Z0 : n0 ≤ h0.size) (E_a1 : Exa Z h0 a1 "java/lang/StringBuilder") (F_a1v : Fld Z h0 a1 "java/lang/AbstractStringBuilder" "value" "[B" (.ref t1)) (F_a1c : Fld Z h0 a1 "java/lang/AbstractStringBuilder" "coder" "B" (.int (0 : Int32))) (F_a1n : Fld Z h0 a1 "java/lang/AbstractStringBuilder" "count" "I" (.int (Int32.ofNat cs.length))) (A_t1 : Arv Z h0 t1 k1 .byte (16 : Int32) (bs.map Value.int) (.int (0 : Int32))) (g_a1 : n0 ≤ a1) (g_t1 : n0 ≤ t1) (S_x1 : Str Z h0.size h0 x1 ds) (hbs : (bs.length = 16)) (hN : (cs.length + ds.length ≤ 16)) (hSt : St Z zc vfm vus vss) (hO : Old Z n0 h0) :
    CN l Z ({ cls := "java/lang/StringBuilder", name := "append", desc := "(Ljava/lang/String;)Ljava/lang/StringBuilder;" } : Jvm.MethodName) [(Jvm.Cond.code ({ cls := "java/lang/StringBuilder", name := "append", desc := "(Ljava/lang/String;)Ljava/lang/StringBuilder;" } : Jvm.MethodName) jdk_67_method_7_code (2 : Nat) (Option.some (Jvm.ClassFile.FieldType.object "java/lang/StringBuilder")))] ({ frames := 4, cells := 0, slots := 0, locals := 61 } : Room) #[(.ref a1), (.ref x1)] h0 (Q_sbaN Z zc vfm vus vss a1 t1 k1 bs cs x1 ds h0 n0) := by
  refine CN.of (L0 := #[vR a1, vR x1]) (plainFor_of_name pn_6) (fun m => by first | (simp [entryFrame, mkF, argsToLocals, Value.category]; done) | rfl) ?_
  intro p e s m below meth c s₁ hx hby hml hret hlk hZ hown hnm X0 e0
  have N0 := Fr.nil n0
  have KP0 := Keep.refl h0 [a1, t1]
  have hSt_ := hSt
  obtain ⟨S_cs, n_cs, S_fm, r_fm, S_us, r_us, S_ss, r_ss⟩ := hSt_
  show Go p e below _ (s₁.setTop (mkF m 0 #[vR a1, vR x1] []))
  refine Go.step (fun _ k => XS.aloadN X0.here hx rfl (hb hby d_jdk_67_method_7_code_0) rfl rfl k) ?_
  refine Go.step (fun _ k => XS.aloadN X0.here hx rfl (hb hby d_jdk_67_method_7_code_1) rfl rfl k) ?_
  show Go p e below _ (s₁.setTop (mkF m 2 #[vR a1, vR x1] [(.ref x1), (.ref a1)]))
  obtain ⟨v_77, T_77, L_77, X_77, hQ_77, st_77⟩ := goSup X0 hx hZ (y := Y_11) hown (wd_132 hw) (same_own (wd_133 hw) (wd_152 hw) rfl (by decide)) (wd_133 hw) (wd_134 hw) (by decide) (backOf (W := 0) (rm_abaN l Z a0 hw zc vfm vus vss (a1) (t1) (k1) (bs) (cs) (x1) (ds) h0 n0 (Nat.le_trans Z0 KP0.1) E_a1 F_a1v F_a1c F_a1n A_t1 g_a1 g_t1 S_x1 hbs hN hSt hO) hZ (wd_136 hw) (wd_119 hw) (by decide) (by decide)) e0 (Ins.self E_a1) (wd_136 hw) (g := (mkF m 2 #[vR a1, vR x1] [(.ref x1), (.ref a1)])) rfl (by rw [hml]; rfl) (argsL := [(.ref x1)]) (rest := []) rfl (lenOf pd_6 rfl) rfl (by show 2 * 0 + _ ≤ _; exact Nat.le_of_eq rfl) (hb hby d_jdk_67_method_7_code_2) (by decide) (by decide)
  obtain ⟨rfl, Nq_77, K_77, u0_77, u1_77, u2_77, u3_77⟩ := hQ_77
  have N_77 := Fr.app N0 Nq_77
  have le_77 : h0.size ≤ T_77.heap.size := K_77.1
  have KP_77 := KP0.trans K_77 (allS (Or.inl (List.mem_of_getElem? (i := 0) rfl)) (allS (Or.inl (List.mem_of_getElem? (i := 1) rfl)) all0))
  have O_77 := hO.keep K_77 (allS g_a1 (allS g_t1 all0))
  refine Go.step st_77 ?_
  show Go p e below _ (T_77.setTop (mkF m 5 #[vR a1, vR x1] [(.ref a1)]))
  refine Go.step (fun _ k => XS.pop X_77.here hx rfl (hb hby d_jdk_67_method_7_code_5) rfl rfl k) ?_
  show Go p e below _ (T_77.setTop (mkF m 6 #[vR a1, vR x1] []))
  refine Go.step (fun _ k => XS.aloadN X_77.here hx rfl (hb hby d_jdk_67_method_7_code_6) rfl rfl k) ?_
  show Go p e below _ (T_77.setTop (mkF m 7 #[vR a1, vR x1] [(.ref a1)]))
  exact Go.retV X_77 hx hlk hret rfl (Or.inr (Or.inr (Or.inr (Or.inr ⟨rfl, rfl, rfl⟩)))) (hb hby d_jdk_67_method_7_code_7) (by decide) (by decide) (by exact ⟨rfl, N_77, KP_77, u0_77, u1_77, u2_77, u3_77⟩)
--@E
--@C cl
def Q_cl (Z : State) (zc : Int32) (vfm : Value) (vus : Value) (vss : Value) (f1 : Int32) (y1 : Int32) (h0 : Heap) (n0 : Nat) (v : Option Value) (h : Heap) (L : List Loc) : Prop := v = none ∧ Fr n0 L ∧ h = h0
set_option maxRecDepth 65536 in
set_option maxHeartbeats 40000000 in
theorem rm_cl (l : Launch) (Z : State) (a0 : Array Value) (hw : ∀ d ∈ tables_1, d.before a0 Z = true) (zc : Int32) (vfm : Value) (vus : Value) (vss : Value) (f1 : Int32) (y1 : Int32) (h0 : Heap) (n0 : Nat) (Z0 : n0 ≤ h0.size) (hfy : (¬ y1 < f1)) (hSt : St Z zc vfm vus vss) (hO : Old Z n0 h0) :
    CN l Z ({ cls := "java/util/Arrays", name := "checkLength", desc := "(II)V" } : Jvm.MethodName) [(Jvm.Cond.code ({ cls := "java/util/Arrays", name := "checkLength", desc := "(II)V" } : Jvm.MethodName) jdk_65_method_131_code (2 : Nat) (Option.none : Option Jvm.ClassFile.FieldType))] ({ frames := 0, cells := 0, slots := 0, locals := 0 } : Room) #[(.int f1), (.int y1)] h0 (Q_cl Z zc vfm vus vss f1 y1 h0 n0) := by
  refine CN.of (L0 := #[vI f1, vI y1]) (plainFor_of_name pn_8) (fun m => by first | (simp [entryFrame, mkF, argsToLocals, Value.category]; done) | rfl) ?_
  intro p e s m below meth c s₁ hx hby hml hret hlk hZ hown hnm X0 e0
  have N0 := Fr.nil n0
  have KP0 := Keep.refl h0 []
  have hSt_ := hSt
  obtain ⟨S_cs, n_cs, S_fm, r_fm, S_us, r_us, S_ss, r_ss⟩ := hSt_
  show Go p e below _ (s₁.setTop (mkF m 0 #[vI f1, vI y1] []))
  refine Go.step (fun _ k => XS.iloadN X0.here hx rfl (hb hby d_jdk_65_method_131_code_0) rfl  k) ?_
  refine Go.step (fun _ k => XS.iloadN X0.here hx rfl (hb hby d_jdk_65_method_131_code_1) rfl  k) ?_
  show Go p e below _ (s₁.setTop (mkF m 2 #[vI f1, vI y1] [(.int f1), (.int y1)]))
  refine Go.step (fun _ k => XS.icmpYes X0.here hx rfl (pc0 := 2) (pc' := 37) rfl (hb hby d_jdk_65_method_131_code_2) rfl (flt (hfy : ¬ (y1 < f1))).2.1 (by decide) (by decide) k) ?_
  show Go p e below _ (s₁.setTop (mkF m 37 #[vI f1, vI y1] []))
  exact Go.ret0 X0 hx hlk hret (hb hby d_jdk_65_method_131_code_37) (by decide) (by decide) (by rw [e0]; exact ⟨rfl, N0, rfl⟩)
--@E
--@C mn
def Q_mn (Z : State) (zc : Int32) (vfm : Value) (vus : Value) (vss : Value) (x1 : Int32) (y1 : Int32) (h0 : Heap) (n0 : Nat) (v : Option Value) (h : Heap) (L : List Loc) : Prop := v = some (.int y1) ∧ Fr n0 L ∧ h = h0
set_option maxRecDepth 65536 in
set_option maxHeartbeats 40000000 in
theorem rm_mn (l : Launch) (Z : State) (a0 : Array Value) (hw : ∀ d ∈ tables_1, d.before a0 Z = true) (zc : Int32) (vfm : Value) (vus : Value) (vss : Value) (x1 : Int32) (y1 : Int32) (h0 : Heap) (n0 : Nat) (Z0 : n0 ≤ h0.size) (hxy : (¬ x1 < y1)) (hSt : St Z zc vfm vus vss) (hO : Old Z n0 h0) :
    CN l Z ({ cls := "java/lang/Math", name := "min", desc := "(II)I" } : Jvm.MethodName) [(Jvm.Cond.code ({ cls := "java/lang/Math", name := "min", desc := "(II)I" } : Jvm.MethodName) jdk_29_method_69_code (2 : Nat) (Option.some Jvm.ClassFile.FieldType.int))] ({ frames := 0, cells := 0, slots := 0, locals := 0 } : Room) #[(.int x1), (.int y1)] h0 (Q_mn Z zc vfm vus vss x1 y1 h0 n0) := by
  refine CN.of (L0 := #[vI x1, vI y1]) (Jvm.Free.JP.mathPlain rfl (by decide +kernel)) (fun m => by first | (simp [entryFrame, mkF, argsToLocals, Value.category]; done) | rfl) ?_
  intro p e s m below meth c s₁ hx hby hml hret hlk hZ hown hnm X0 e0
  have N0 := Fr.nil n0
  have KP0 := Keep.refl h0 []
  have hSt_ := hSt
  obtain ⟨S_cs, n_cs, S_fm, r_fm, S_us, r_us, S_ss, r_ss⟩ := hSt_
  show Go p e below _ (s₁.setTop (mkF m 0 #[vI x1, vI y1] []))
  refine Go.step (fun _ k => XS.iloadN X0.here hx rfl (hb hby d_jdk_29_method_69_code_0) rfl  k) ?_
  refine Go.step (fun _ k => XS.iloadN X0.here hx rfl (hb hby d_jdk_29_method_69_code_1) rfl  k) ?_
  show Go p e below _ (s₁.setTop (mkF m 2 #[vI x1, vI y1] [(.int y1), (.int x1)]))
  by_cases u0 : y1 < x1
  · skip
    refine Go.step (fun _ k => XS.icmpYes X0.here hx rfl (pc0 := 2) (pc' := 9) rfl (hb hby d_jdk_29_method_69_code_2) rfl (tlt u0).2.2.1 (by decide) (by decide) k) ?_
    show Go p e below _ (s₁.setTop (mkF m 9 #[vI x1, vI y1] []))
    refine Go.step (fun _ k => XS.iloadN X0.here hx rfl (hb hby d_jdk_29_method_69_code_9) rfl  k) ?_
    show Go p e below _ (s₁.setTop (mkF m 10 #[vI x1, vI y1] [(.int y1)]))
    exact Go.retV X0 hx hlk hret rfl (Or.inl ⟨rfl, Or.inl rfl, _, rfl⟩) (hb hby d_jdk_29_method_69_code_10) (by decide) (by decide) (by rw [e0]; exact ⟨rfl, N0, rfl⟩)
  · skip
    refine Go.step (fun _ k => XS.icmpNo X0.here hx rfl (hb hby d_jdk_29_method_69_code_2) rfl (flt u0).2.2.1 k) ?_
    show Go p e below _ (s₁.setTop (mkF m 5 #[vI x1, vI y1] []))
    refine Go.step (fun _ k => XS.iloadN X0.here hx rfl (hb hby d_jdk_29_method_69_code_5) rfl  k) ?_
    show Go p e below _ (s₁.setTop (mkF m 6 #[vI x1, vI y1] [(.int x1)]))
    refine Go.step (fun _ k => XS.goto X0.here hx rfl (pc0 := 6) (pc' := 10) rfl (hb hby d_jdk_29_method_69_code_6) (by decide) (by decide) k) ?_
    show Go p e below _ (s₁.setTop (mkF m 10 #[vI x1, vI y1] [(.int x1)]))
    exact Go.retV X0 hx hlk hret rfl (Or.inl ⟨rfl, Or.inl rfl, _, rfl⟩) (hb hby d_jdk_29_method_69_code_10) (by decide) (by decide) (by rw [e0]; exact ⟨(congrArg (fun z => some (Value.int z)) (eq_of_nlt hxy u0)), N0, rfl⟩)
--@E
--@C crb
def Q_crb (Z : State) (zc : Int32) (vfm : Value) (vus : Value) (vss : Value) (t1 : Addr) (k1 : ClassId) (z1 : Int32) (bs : List Int32) (kk : Nat) (nn : Nat) (h0 : Heap) (n0 : Nat) (v : Option Value) (h : Heap) (L : List Loc) : Prop := ∃ (r : Addr) (kr : ClassId), v = some (.ref r) ∧ Fr n0 L ∧ Keep h0 h [] ∧ h0.size ≤ r ∧ Arv Z h r kr .byte (Int32.ofNat nn) (((bs.drop kk).take nn).map Value.int) (.int (0 : Int32))
set_option maxRecDepth 65536 in
set_option maxHeartbeats 40000000 in
theorem rm_crb (l : Launch) (Z : State) (a0 : Array Value) (hw : ∀ d ∈ tables_1, d.before a0 Z = true) (zc : Int32) (vfm : Value) (vus : Value) (vss : Value) (t1 : Addr) (k1 : ClassId) (z1 : Int32) (bs : List Int32) (kk : Nat) (nn : Nat) (h0 : Heap) (n0 : Nat) (Z0 : n0 ≤ h0.size) (A_t1 : Arv Z h0 t1 k1 .byte z1 (bs.map Value.int) (.int (0 : Int32))) (hz : (z1 = Int32.ofNat bs.length)) (hbs : (bs.length ≤ 100)) (hk : (kk + nn ≤ bs.length ∧ nn ≤ 40)) (hSt : St Z zc vfm vus vss) (hO : Old Z n0 h0) :
    CN l Z ({ cls := "java/util/Arrays", name := "copyOfRangeByte", desc := "([BII)[B" } : Jvm.MethodName) [(Jvm.Cond.code ({ cls := "java/util/Arrays", name := "copyOfRangeByte", desc := "([BII)[B" } : Jvm.MethodName) jdk_65_method_133_code (5 : Nat) (Option.some (Jvm.ClassFile.FieldType.array Jvm.ClassFile.FieldType.byte)))] ({ frames := 1, cells := 1, slots := 40, locals := 18 } : Room) #[(.ref t1), (.int (Int32.ofNat kk)), (.int (Int32.ofNat (kk + nn)))] h0 (Q_crb Z zc vfm vus vss t1 k1 z1 bs kk nn h0 n0) := by
  refine CN.of (L0 := #[vR t1, vI (Int32.ofNat kk), vI (Int32.ofNat (kk + nn)), vU, vU]) (plainFor_of_name pn_8) (fun m => by first | (simp [entryFrame, mkF, argsToLocals, Value.category]; done) | rfl) ?_
  intro p e s m below meth c s₁ hx hby hml hret hlk hZ hown hnm X0 e0
  have N0 := Fr.nil n0
  have KP0 := Keep.refl h0 []
  have hSt_ := hSt
  obtain ⟨S_cs, n_cs, S_fm, r_fm, S_us, r_us, S_ss, r_ss⟩ := hSt_
  show Go p e below _ (s₁.setTop (mkF m 0 #[vR t1, vI (Int32.ofNat kk), vI (Int32.ofNat (kk + nn)), vU, vU] []))
  refine Go.step (fun _ k => XS.iloadN X0.here hx rfl (hb hby d_jdk_65_method_133_code_0) rfl  k) ?_
  refine Go.step (fun _ k => XS.iloadN X0.here hx rfl (hb hby d_jdk_65_method_133_code_1) rfl  k) ?_
  show Go p e below _ (s₁.setTop (mkF m 2 #[vR t1, vI (Int32.ofNat kk), vI (Int32.ofNat (kk + nn)), vU, vU] [(.int (Int32.ofNat (kk + nn))), (.int (Int32.ofNat kk))]))
  obtain ⟨v_78, T_78, L_78, X_78, hQ_78, st_78⟩ := goS X0 hx hZ (y := Y_12) hown (wd_218 hw) (wd_219 hw) (wd_213 hw) (wd_220 hw) (by decide) (backOf (W := 0) (rm_cl l Z a0 hw zc vfm vus vss ((Int32.ofNat kk)) ((Int32.ofNat (kk + nn))) h0 n0 (Nat.le_trans Z0 KP0.1) (fun q => absurd ((ofn_lt (by omega) (by omega)).mp q) (by omega)) hSt hO) hZ (wd_220 hw) (wd_213 hw) (by decide) (by decide)) e0 (g := (mkF m 2 #[vR t1, vI (Int32.ofNat kk), vI (Int32.ofNat (kk + nn)), vU, vU] [(.int (Int32.ofNat (kk + nn))), (.int (Int32.ofNat kk))])) rfl (by rw [hml]; rfl) (argsL := [(.int (Int32.ofNat kk)), (.int (Int32.ofNat (kk + nn)))]) (rest := []) rfl (lenOf pd_7 rfl) rfl (by show 2 * 0 + _ ≤ _; exact Nat.le_of_eq rfl) (hb hby d_jdk_65_method_133_code_2) (by decide) (by decide)
  obtain ⟨rfl, Nq_78, e_78⟩ := hQ_78
  have N_78 := Fr.app N0 Nq_78
  refine Go.step st_78 ?_
  show Go p e below _ (T_78.setTop (mkF m 5 #[vR t1, vI (Int32.ofNat kk), vI (Int32.ofNat (kk + nn)), vU, vU] []))
  refine Go.step (fun _ k => XS.iloadN X_78.here hx rfl (hb hby d_jdk_65_method_133_code_5) rfl  k) ?_
  refine Go.step (fun _ k => XS.iloadN X_78.here hx rfl (hb hby d_jdk_65_method_133_code_6) rfl  k) ?_
  show Go p e below _ (T_78.setTop (mkF m 7 #[vR t1, vI (Int32.ofNat kk), vI (Int32.ofNat (kk + nn)), vU, vU] [(.int (Int32.ofNat kk)), (.int (Int32.ofNat (kk + nn)))]))
  refine Go.step (fun _ k => XS.isub X_78.here hx rfl (hb hby d_jdk_65_method_133_code_7) rfl k) ?_
  show Go p e below _ (T_78.setTop (mkF m 8 #[vR t1, vI (Int32.ofNat kk), vI (Int32.ofNat (kk + nn)), vU, vU] [(.int ((Int32.ofNat (kk + nn)) - (Int32.ofNat kk)))]))
  refine own_top (congrArg Value.int (show ((Int32.ofNat (kk + nn)) - (Int32.ofNat kk)) = (Int32.ofNat nn) from (ofn_sub (by omega) (by omega) (by omega)).trans (congrArg Int32.ofNat (by omega)))) ?_
  show Go p e below _ (T_78.setTop (mkF m 8 #[vR t1, vI (Int32.ofNat kk), vI (Int32.ofNat (kk + nn)), vU, vU] [(.int (Int32.ofNat nn))]))
  refine Go.step (fun _ k => XS.istoreN X_78.here hx rfl (hb hby d_jdk_65_method_133_code_8) rfl (l' := #[vR t1, vI (Int32.ofNat kk), vI (Int32.ofNat (kk + nn)), vI (Int32.ofNat nn), vU]) rfl k) ?_
  show Go p e below _ (T_78.setTop (mkF m 9 #[vR t1, vI (Int32.ofNat kk), vI (Int32.ofNat (kk + nn)), vI (Int32.ofNat nn), vU] []))
  refine Go.step (fun _ k => XS.iloadN X_78.here hx rfl (hb hby d_jdk_65_method_133_code_9) rfl  k) ?_
  show Go p e below _ (T_78.setTop (mkF m 10 #[vR t1, vI (Int32.ofNat kk), vI (Int32.ofNat (kk + nn)), vI (Int32.ofNat nn), vU] [(.int (Int32.ofNat nn))]))
  obtain ⟨T_79, h_79, k_79, X_79, e_79, E_79, A_79, st_79⟩ := newP X_78 hx hZ (aty := .byte) (wd_23 hw) e_78 (g := (mkF m 10 #[vR t1, vI (Int32.ofNat kk), vI (Int32.ofNat (kk + nn)), vI (Int32.ofNat nn), vU] [(.int (Int32.ofNat nn))])) rfl (hb hby d_jdk_65_method_133_code_10) rfl (ofn_pos (by omega)) (cap := 40) (by rw [clampN (by omega)]; omega) (by decide) (by decide) (by decide)
  obtain ⟨b79, q_79⟩ : ∃ z, z = h0.size := ⟨_, rfl⟩
  rw [← q_79] at A_79 st_79
  refine Go.step st_79 ?_
  have le_79 : h0.size ≤ h_79.size := E_79.1
  have KP_79 := KP0.ext E_79
  have O_79 := hO.ext E_79
  have ge_79 : h0.size ≤ b79 := Nat.le_of_eq q_79.symm
  have sz_b79 : h0.size ≤ b79 := Nat.le_trans (Nat.le_refl _) ge_79
  have g_b79 : n0 ≤ b79 := Nat.le_trans Z0 sz_b79
  have V_79 : Arv Z h_79 b79 k_79 .byte (Int32.ofNat nn) [] (.int (0 : Int32)) := Arv.new A_79 (ofn_pos (by omega))
  have V_79 := V_79.pad (vs' := (List.replicate nn (.int (0 : Int32)))) (pad_rep [] _ nn)
  show Go p e below _ (T_79.setTop (mkF m 12 #[vR t1, vI (Int32.ofNat kk), vI (Int32.ofNat (kk + nn)), vI (Int32.ofNat nn), vU] [(.ref b79)]))
  refine Go.step (fun _ k => XS.astore X_79.here hx rfl (hb hby d_jdk_65_method_133_code_12) rfl rfl (l' := #[vR t1, vI (Int32.ofNat kk), vI (Int32.ofNat (kk + nn)), vI (Int32.ofNat nn), vR b79]) rfl k) ?_
  show Go p e below _ (T_79.setTop (mkF m 14 #[vR t1, vI (Int32.ofNat kk), vI (Int32.ofNat (kk + nn)), vI (Int32.ofNat nn), vR b79] []))
  refine Go.step (fun _ k => XS.aloadN X_79.here hx rfl (hb hby d_jdk_65_method_133_code_14) rfl rfl k) ?_
  refine Go.step (fun _ k => XS.iloadN X_79.here hx rfl (hb hby d_jdk_65_method_133_code_15) rfl  k) ?_
  refine Go.step (fun _ k => XS.aload X_79.here hx rfl (hb hby d_jdk_65_method_133_code_16) rfl rfl k) ?_
  refine Go.step (fun _ k => XS.iconst X_79.here hx rfl (hb hby d_jdk_65_method_133_code_18) k) ?_
  refine Go.step (fun _ k => XS.aloadN X_79.here hx rfl (hb hby d_jdk_65_method_133_code_19) rfl rfl k) ?_
  show Go p e below _ (T_79.setTop (mkF m 20 #[vR t1, vI (Int32.ofNat kk), vI (Int32.ofNat (kk + nn)), vI (Int32.ofNat nn), vR b79] [(.ref t1), (.int (0 : Int32)), (.ref b79), (.int (Int32.ofNat kk)), (.ref t1)]))
  have f81 : Arv Z h_79 t1 k1 .byte z1 (bs.map Value.int) (.int (0 : Int32)) := (A_t1.ext E_79)
  have cp82 := f81
  obtain ⟨cl_80, Ar_80, -, Sz_80, Ng_80, -, -⟩ := cp82
  refine Go.step (fun _ k => X_79.arraylength hx (by rw [e_79]; exact Ar_80.1) (State.isArrayOf_alike hZ.alike Ar_80.2.1) (g := (mkF m 20 #[vR t1, vI (Int32.ofNat kk), vI (Int32.ofNat (kk + nn)), vI (Int32.ofNat nn), vR b79] [(.ref t1), (.int (0 : Int32)), (.ref b79), (.int (Int32.ofNat kk)), (.ref t1)])) rfl rfl (hb hby d_jdk_65_method_133_code_20) _ k) ?_
  rw [len_of Sz_80 Ng_80]
  show Go p e below _ (T_79.setTop (mkF m 21 #[vR t1, vI (Int32.ofNat kk), vI (Int32.ofNat (kk + nn)), vI (Int32.ofNat nn), vR b79] [(.int z1), (.int (0 : Int32)), (.ref b79), (.int (Int32.ofNat kk)), (.ref t1)]))
  refine Go.step (fun _ k => XS.iloadN X_79.here hx rfl (hb hby d_jdk_65_method_133_code_21) rfl  k) ?_
  show Go p e below _ (T_79.setTop (mkF m 22 #[vR t1, vI (Int32.ofNat kk), vI (Int32.ofNat (kk + nn)), vI (Int32.ofNat nn), vR b79] [(.int (Int32.ofNat kk)), (.int z1), (.int (0 : Int32)), (.ref b79), (.int (Int32.ofNat kk)), (.ref t1)]))
  refine Go.step (fun _ k => XS.isub X_79.here hx rfl (hb hby d_jdk_65_method_133_code_22) rfl k) ?_
  show Go p e below _ (T_79.setTop (mkF m 23 #[vR t1, vI (Int32.ofNat kk), vI (Int32.ofNat (kk + nn)), vI (Int32.ofNat nn), vR b79] [(.int (z1 - (Int32.ofNat kk))), (.int (0 : Int32)), (.ref b79), (.int (Int32.ofNat kk)), (.ref t1)]))
  refine own_top (congrArg Value.int (show (z1 - (Int32.ofNat kk)) = (Int32.ofNat (bs.length - kk)) from by rw [hz]; exact ofn_sub (by omega) (by omega) (by omega))) ?_
  show Go p e below _ (T_79.setTop (mkF m 23 #[vR t1, vI (Int32.ofNat kk), vI (Int32.ofNat (kk + nn)), vI (Int32.ofNat nn), vR b79] [(.int (Int32.ofNat (bs.length - kk))), (.int (0 : Int32)), (.ref b79), (.int (Int32.ofNat kk)), (.ref t1)]))
  refine Go.step (fun _ k => XS.iloadN X_79.here hx rfl (hb hby d_jdk_65_method_133_code_23) rfl  k) ?_
  show Go p e below _ (T_79.setTop (mkF m 24 #[vR t1, vI (Int32.ofNat kk), vI (Int32.ofNat (kk + nn)), vI (Int32.ofNat nn), vR b79] [(.int (Int32.ofNat nn)), (.int (Int32.ofNat (bs.length - kk))), (.int (0 : Int32)), (.ref b79), (.int (Int32.ofNat kk)), (.ref t1)]))
  obtain ⟨v_83, T_83, L_83, X_83, hQ_83, st_83⟩ := goS X_79 hx hZ (y := Y_13) hown (wd_221 hw) (wd_222 hw) (wd_223 hw) (wd_224 hw) (by decide) (backOf (W := 4) (rm_mn l Z a0 hw zc vfm vus vss ((Int32.ofNat (bs.length - kk))) ((Int32.ofNat nn)) h_79 n0 (Nat.le_trans Z0 KP_79.1) (fun q => absurd ((ofn_lt (by omega) (by omega)).mp q) (by omega)) hSt O_79) hZ (wd_224 hw) (wd_223 hw) (by decide) (by decide)) e_79 (g := (mkF m 24 #[vR t1, vI (Int32.ofNat kk), vI (Int32.ofNat (kk + nn)), vI (Int32.ofNat nn), vR b79] [(.int (Int32.ofNat nn)), (.int (Int32.ofNat (bs.length - kk))), (.int (0 : Int32)), (.ref b79), (.int (Int32.ofNat kk)), (.ref t1)])) rfl (by rw [hml]; rfl) (argsL := [(.int (Int32.ofNat (bs.length - kk))), (.int (Int32.ofNat nn))]) (rest := [(.int (0 : Int32)), (.ref b79), (.int (Int32.ofNat kk)), (.ref t1)]) rfl (lenOf pd_8 rfl) rfl (by show 2 * 0 + _ ≤ _; exact Nat.le_of_eq rfl) (hb hby d_jdk_65_method_133_code_24) (by decide) (by decide)
  obtain ⟨rfl, Nq_83, e_83⟩ := hQ_83
  have N_83 := Fr.app N_78 Nq_83
  refine Go.step st_83 ?_
  show Go p e below _ (T_83.setTop (mkF m 27 #[vR t1, vI (Int32.ofNat kk), vI (Int32.ofNat (kk + nn)), vI (Int32.ofNat nn), vR b79] [(.int (Int32.ofNat nn)), (.int (0 : Int32)), (.ref b79), (.int (Int32.ofNat kk)), (.ref t1)]))
  obtain ⟨T_84, h_84, L_84, X_84, e_84, N_84, K_84, V_84, st_84⟩ := cpA X_83 hx hZ hown (wd_225 hw) (wd_173 hw) (wd_171 hw) (wd_172 hw) e_83 f81 V_79 (sp := (Int32.ofNat kk)) (dp := (0 : Int32)) (nn := (Int32.ofNat nn)) (Or.inl ⟨rfl, rfl⟩) (ofn_pos (by omega)) (by decide) (ofn_pos (by omega)) (by rw [hz, clampN (k := kk) (by omega), clampN (k := nn) (by omega), clampN (k := bs.length) (by omega)]; omega) (by rw [clampN (k := nn) (by omega)]; exact Nat.le_of_eq (Nat.zero_add _)) rfl (by rw [clampN (k := nn) (by omega), List.length_replicate]; exact Nat.le_of_eq (Nat.zero_add _)) N_83 g_b79 (g := (mkF m 27 #[vR t1, vI (Int32.ofNat kk), vI (Int32.ofNat (kk + nn)), vI (Int32.ofNat nn), vR b79] [(.int (Int32.ofNat nn)), (.int (0 : Int32)), (.ref b79), (.int (Int32.ofNat kk)), (.ref t1)])) rfl (by rw [hml]; rfl) (rest := []) rfl (hb hby d_jdk_65_method_133_code_27) (by decide) (W := 0) (by show 2 * 0 + _ ≤ _; exact Nat.le_of_eq rfl) (by decide)
  refine Go.step st_84 ?_
  have le_84 : h_79.size ≤ h_84.size := K_84.1
  have KP_84 := KP_79.trans K_84 (allS (Or.inr sz_b79) all0)
  have O_84 := O_79.keep K_84 (allS g_b79 all0)
  have A_84 : Arv Z h_84 b79 k_79 .byte (Int32.ofNat nn) (((bs.drop kk).take nn).map Value.int) (.int (0 : Int32)) := by
    have q := V_84
    rw [cp_rng (clampN (by omega)) (by decide) (clampN (by omega)) hk.1 List.length_replicate] at q
    exact q
  show Go p e below _ (T_84.setTop (mkF m 30 #[vR t1, vI (Int32.ofNat kk), vI (Int32.ofNat (kk + nn)), vI (Int32.ofNat nn), vR b79] []))
  refine Go.step (fun _ k => XS.aload X_84.here hx rfl (hb hby d_jdk_65_method_133_code_30) rfl rfl k) ?_
  show Go p e below _ (T_84.setTop (mkF m 32 #[vR t1, vI (Int32.ofNat kk), vI (Int32.ofNat (kk + nn)), vI (Int32.ofNat nn), vR b79] [(.ref b79)]))
  exact Go.retV X_84 hx hlk hret rfl (Or.inr (Or.inr (Or.inr (Or.inr ⟨rfl, rfl, rfl⟩)))) (hb hby d_jdk_65_method_133_code_32) (by decide) (by decide) (by rw [e_84]; exact ⟨b79, k_79, rfl, N_84, KP_84, sz_b79, A_84⟩)
--@E
--@C crN
def Q_crN (Z : State) (zc : Int32) (vfm : Value) (vus : Value) (vss : Value) (t1 : Addr) (k1 : ClassId) (z1 : Int32) (bs : List Int32) (kk : Nat) (nn : Nat) (h0 : Heap) (n0 : Nat) (v : Option Value) (h : Heap) (L : List Loc) : Prop := ∃ (r : Addr) (kr : ClassId), v = some (.ref r) ∧ Fr n0 L ∧ Keep h0 h [] ∧ h0.size ≤ r ∧ Arv Z h r kr .byte (Int32.ofNat nn) (((bs.drop kk).take nn).map Value.int) (.int (0 : Int32))
set_option maxRecDepth 65536 in
set_option maxHeartbeats 40000000 in
theorem rm_crN (l : Launch) (Z : State) (a0 : Array Value) (hw : ∀ d ∈ tables_1, d.before a0 Z = true) (zc : Int32) (vfm : Value) (vus : Value) (vss : Value) (t1 : Addr) (k1 : ClassId) (z1 : Int32) (bs : List Int32) (kk : Nat) (nn : Nat) (h0 : Heap) (n0 : Nat) (Z0 : n0 ≤ h0.size) (A_t1 : Arv Z h0 t1 k1 .byte z1 (bs.map Value.int) (.int (0 : Int32))) (hz : (z1 = Int32.ofNat bs.length)) (hbs : (bs.length ≤ 100)) (hk : (kk + nn ≤ bs.length ∧ nn ≤ 40)) (hnc : (kk = 0 → ¬ nn = bs.length)) (hSt : St Z zc vfm vus vss) (hO : Old Z n0 h0) :
    CN l Z ({ cls := "java/util/Arrays", name := "copyOfRange", desc := "([BII)[B" } : Jvm.MethodName) [(Jvm.Cond.code ({ cls := "java/util/Arrays", name := "copyOfRange", desc := "([BII)[B" } : Jvm.MethodName) jdk_65_method_132_code (3 : Nat) (Option.some (Jvm.ClassFile.FieldType.array Jvm.ClassFile.FieldType.byte)))] ({ frames := 2, cells := 1, slots := 40, locals := 34 } : Room) #[(.ref t1), (.int (Int32.ofNat kk)), (.int (Int32.ofNat (kk + nn)))] h0 (Q_crN Z zc vfm vus vss t1 k1 z1 bs kk nn h0 n0) := by
  refine CN.of (L0 := #[vR t1, vI (Int32.ofNat kk), vI (Int32.ofNat (kk + nn))]) (plainFor_of_name pn_8) (fun m => by first | (simp [entryFrame, mkF, argsToLocals, Value.category]; done) | rfl) ?_
  intro p e s m below meth c s₁ hx hby hml hret hlk hZ hown hnm X0 e0
  have N0 := Fr.nil n0
  have KP0 := Keep.refl h0 []
  have hSt_ := hSt
  obtain ⟨S_cs, n_cs, S_fm, r_fm, S_us, r_us, S_ss, r_ss⟩ := hSt_
  show Go p e below _ (s₁.setTop (mkF m 0 #[vR t1, vI (Int32.ofNat kk), vI (Int32.ofNat (kk + nn))] []))
  refine Go.step (fun _ k => XS.iloadN X0.here hx rfl (hb hby d_jdk_65_method_132_code_0) rfl  k) ?_
  show Go p e below _ (s₁.setTop (mkF m 1 #[vR t1, vI (Int32.ofNat kk), vI (Int32.ofNat (kk + nn))] [(.int (Int32.ofNat kk))]))
  by_cases u0 : (Int32.ofNat kk) = (0 : Int32)
  · skip
    refine Go.step (fun _ k => XS.ifNo X0.here hx rfl (hb hby d_jdk_65_method_132_code_1) rfl ((if0 _ _).trans (teq u0).2) k) ?_
    show Go p e below _ (s₁.setTop (mkF m 4 #[vR t1, vI (Int32.ofNat kk), vI (Int32.ofNat (kk + nn))] []))
    refine Go.step (fun _ k => XS.iloadN X0.here hx rfl (hb hby d_jdk_65_method_132_code_4) rfl  k) ?_
    refine Go.step (fun _ k => XS.aloadN X0.here hx rfl (hb hby d_jdk_65_method_132_code_5) rfl rfl k) ?_
    show Go p e below _ (s₁.setTop (mkF m 6 #[vR t1, vI (Int32.ofNat kk), vI (Int32.ofNat (kk + nn))] [(.ref t1), (.int (Int32.ofNat (kk + nn)))]))
    have cp86 := A_t1
    obtain ⟨cl_85, Ar_85, -, Sz_85, Ng_85, -, -⟩ := cp86
    refine Go.step (fun _ k => X0.arraylength hx (by rw [e0]; exact Ar_85.1) (State.isArrayOf_alike hZ.alike Ar_85.2.1) (g := (mkF m 6 #[vR t1, vI (Int32.ofNat kk), vI (Int32.ofNat (kk + nn))] [(.ref t1), (.int (Int32.ofNat (kk + nn)))])) rfl rfl (hb hby d_jdk_65_method_132_code_6) _ k) ?_
    rw [len_of Sz_85 Ng_85]
    show Go p e below _ (s₁.setTop (mkF m 7 #[vR t1, vI (Int32.ofNat kk), vI (Int32.ofNat (kk + nn))] [(.int z1), (.int (Int32.ofNat (kk + nn)))]))
    refine Go.step (fun _ k => XS.icmpNo X0.here hx rfl (hb hby d_jdk_65_method_132_code_7) rfl (feq ((fun q => hnc (ofn_inj (k := 0) (by omega) (by omega) u0) (by have := ofn_inj (by omega) (by omega) (q.trans hz); have := ofn_inj (k := 0) (by omega) (by omega) u0; omega)) : ¬ ((Int32.ofNat (kk + nn)) = z1))).1 k) ?_
    show Go p e below _ (s₁.setTop (mkF m 10 #[vR t1, vI (Int32.ofNat kk), vI (Int32.ofNat (kk + nn))] []))
    refine Go.step (fun _ k => XS.aloadN X0.here hx rfl (hb hby d_jdk_65_method_132_code_10) rfl rfl k) ?_
    refine Go.step (fun _ k => XS.iloadN X0.here hx rfl (hb hby d_jdk_65_method_132_code_11) rfl  k) ?_
    refine Go.step (fun _ k => XS.iloadN X0.here hx rfl (hb hby d_jdk_65_method_132_code_12) rfl  k) ?_
    show Go p e below _ (s₁.setTop (mkF m 13 #[vR t1, vI (Int32.ofNat kk), vI (Int32.ofNat (kk + nn))] [(.int (Int32.ofNat (kk + nn))), (.int (Int32.ofNat kk)), (.ref t1)]))
    obtain ⟨v_87, T_87, L_87, X_87, hQ_87, st_87⟩ := goS X0 hx hZ (y := Y_14) hown (wd_215 hw) (wd_216 hw) (wd_213 hw) (wd_217 hw) (by decide) (backOf (W := 0) (rm_crb l Z a0 hw zc vfm vus vss (t1) (k1) (z1) (bs) (kk) (nn) h0 n0 (Nat.le_trans Z0 KP0.1) A_t1 hz hbs hk hSt hO) hZ (wd_217 hw) (wd_213 hw) (by decide) (by decide)) e0 (g := (mkF m 13 #[vR t1, vI (Int32.ofNat kk), vI (Int32.ofNat (kk + nn))] [(.int (Int32.ofNat (kk + nn))), (.int (Int32.ofNat kk)), (.ref t1)])) rfl (by rw [hml]; rfl) (argsL := [(.ref t1), (.int (Int32.ofNat kk)), (.int (Int32.ofNat (kk + nn)))]) (rest := []) rfl (lenOf pd_9 rfl) rfl (by show 2 * 0 + _ ≤ _; exact Nat.le_of_eq rfl) (hb hby d_jdk_65_method_132_code_13) (by decide) (by decide)
    obtain ⟨r_87, kr_87, rfl, Nq_87, K_87, u0_87, u1_87⟩ := hQ_87
    have N_87 := Fr.app N0 Nq_87
    have le_87 : h0.size ≤ T_87.heap.size := K_87.1
    have KP_87 := KP0.trans K_87 all0
    have O_87 := hO.keep K_87 all0
    have sz_r_87 : h0.size ≤ r_87 := Nat.le_trans (Nat.le_refl _) u0_87
    have g_r_87 : n0 ≤ r_87 := Nat.le_trans Z0 sz_r_87
    refine Go.step st_87 ?_
    show Go p e below _ (T_87.setTop (mkF m 16 #[vR t1, vI (Int32.ofNat kk), vI (Int32.ofNat (kk + nn))] [(.ref r_87)]))
    exact Go.retV X_87 hx hlk hret rfl (Or.inr (Or.inr (Or.inr (Or.inr ⟨rfl, rfl, rfl⟩)))) (hb hby d_jdk_65_method_132_code_16) (by decide) (by decide) (by exact ⟨r_87, kr_87, rfl, N_87, KP_87, sz_r_87, u1_87⟩)
  · skip
    refine Go.step (fun _ k => XS.ifYes X0.here hx rfl (pc0 := 1) (pc' := 10) rfl (hb hby d_jdk_65_method_132_code_1) rfl ((if0 _ _).trans (feq u0).2) (by decide) (by decide) k) ?_
    show Go p e below _ (s₁.setTop (mkF m 10 #[vR t1, vI (Int32.ofNat kk), vI (Int32.ofNat (kk + nn))] []))
    refine Go.step (fun _ k => XS.aloadN X0.here hx rfl (hb hby d_jdk_65_method_132_code_10) rfl rfl k) ?_
    refine Go.step (fun _ k => XS.iloadN X0.here hx rfl (hb hby d_jdk_65_method_132_code_11) rfl  k) ?_
    refine Go.step (fun _ k => XS.iloadN X0.here hx rfl (hb hby d_jdk_65_method_132_code_12) rfl  k) ?_
    show Go p e below _ (s₁.setTop (mkF m 13 #[vR t1, vI (Int32.ofNat kk), vI (Int32.ofNat (kk + nn))] [(.int (Int32.ofNat (kk + nn))), (.int (Int32.ofNat kk)), (.ref t1)]))
    obtain ⟨v_88, T_88, L_88, X_88, hQ_88, st_88⟩ := goS X0 hx hZ (y := Y_14) hown (wd_215 hw) (wd_216 hw) (wd_213 hw) (wd_217 hw) (by decide) (backOf (W := 0) (rm_crb l Z a0 hw zc vfm vus vss (t1) (k1) (z1) (bs) (kk) (nn) h0 n0 (Nat.le_trans Z0 KP0.1) A_t1 hz hbs hk hSt hO) hZ (wd_217 hw) (wd_213 hw) (by decide) (by decide)) e0 (g := (mkF m 13 #[vR t1, vI (Int32.ofNat kk), vI (Int32.ofNat (kk + nn))] [(.int (Int32.ofNat (kk + nn))), (.int (Int32.ofNat kk)), (.ref t1)])) rfl (by rw [hml]; rfl) (argsL := [(.ref t1), (.int (Int32.ofNat kk)), (.int (Int32.ofNat (kk + nn)))]) (rest := []) rfl (lenOf pd_9 rfl) rfl (by show 2 * 0 + _ ≤ _; exact Nat.le_of_eq rfl) (hb hby d_jdk_65_method_132_code_13) (by decide) (by decide)
    obtain ⟨r_88, kr_88, rfl, Nq_88, K_88, u0_88, u1_88⟩ := hQ_88
    have N_88 := Fr.app N0 Nq_88
    have le_88 : h0.size ≤ T_88.heap.size := K_88.1
    have KP_88 := KP0.trans K_88 all0
    have O_88 := hO.keep K_88 all0
    have sz_r_88 : h0.size ≤ r_88 := Nat.le_trans (Nat.le_refl _) u0_88
    have g_r_88 : n0 ≤ r_88 := Nat.le_trans Z0 sz_r_88
    refine Go.step st_88 ?_
    show Go p e below _ (T_88.setTop (mkF m 16 #[vR t1, vI (Int32.ofNat kk), vI (Int32.ofNat (kk + nn))] [(.ref r_88)]))
    exact Go.retV X_88 hx hlk hret rfl (Or.inr (Or.inr (Or.inr (Or.inr ⟨rfl, rfl, rfl⟩)))) (hb hby d_jdk_65_method_132_code_16) (by decide) (by decide) (by exact ⟨r_88, kr_88, rfl, N_88, KP_88, sz_r_88, u1_88⟩)
--@E
--@C gv
def Q_gv (Z : State) (zc : Int32) (vfm : Value) (vus : Value) (vss : Value) (a1 : Addr) (t1 : Addr) (h0 : Heap) (n0 : Nat) (v : Option Value) (h : Heap) (L : List Loc) : Prop := v = some (.ref t1) ∧ Fr n0 L ∧ h = h0
set_option maxRecDepth 65536 in
set_option maxHeartbeats 40000000 in
theorem rm_gv (l : Launch) (Z : State) (a0 : Array Value) (hw : ∀ d ∈ tables_1, d.before a0 Z = true) (zc : Int32) (vfm : Value) (vus : Value) (vss : Value) (a1 : Addr) (t1 : Addr) (h0 : Heap) (n0 : Nat) (Z0 : n0 ≤ h0.size) (F_v : Fld Z h0 a1 "java/lang/AbstractStringBuilder" "value" "[B" (.ref t1)) (hSt : St Z zc vfm vus vss) (hO : Old Z n0 h0) :
    CN l Z ({ cls := "java/lang/AbstractStringBuilder", name := "getValue", desc := "()[B" } : Jvm.MethodName) [(Jvm.Cond.code ({ cls := "java/lang/AbstractStringBuilder", name := "getValue", desc := "()[B" } : Jvm.MethodName) jdk_68_method_64_code (1 : Nat) (Option.some (Jvm.ClassFile.FieldType.array Jvm.ClassFile.FieldType.byte)))] ({ frames := 0, cells := 0, slots := 0, locals := 0 } : Room) #[(.ref a1)] h0 (Q_gv Z zc vfm vus vss a1 t1 h0 n0) := by
  refine CN.of (L0 := #[vR a1]) (plainFor_of_name pn_5) (fun m => by first | (simp [entryFrame, mkF, argsToLocals, Value.category]; done) | rfl) ?_
  intro p e s m below meth c s₁ hx hby hml hret hlk hZ hown hnm X0 e0
  have N0 := Fr.nil n0
  have KP0 := Keep.refl h0 []
  have hSt_ := hSt
  obtain ⟨S_cs, n_cs, S_fm, r_fm, S_us, r_us, S_ss, r_ss⟩ := hSt_
  show Go p e below _ (s₁.setTop (mkF m 0 #[vR a1] []))
  refine Go.step (fun _ k => XS.aloadN X0.here hx rfl (hb hby d_jdk_68_method_64_code_0) rfl rfl k) ?_
  show Go p e below _ (s₁.setTop (mkF m 1 #[vR a1] [(.ref a1)]))
  obtain ⟨T_89, X_89, e_89, st_89⟩ := getF X0 hx hZ hown (host := "") (Or.inl (wd_123 hw)) Via.refl e0 F_v (g := (mkF m 1 #[vR a1] [(.ref a1)])) rfl rfl (hb hby d_jdk_68_method_64_code_1)
  refine Go.step st_89 ?_
  show Go p e below _ (T_89.setTop (mkF m 4 #[vR a1] [(.ref t1)]))
  exact Go.retV X_89 hx hlk hret rfl (Or.inr (Or.inr (Or.inr (Or.inr ⟨rfl, rfl, rfl⟩)))) (hb hby d_jdk_68_method_64_code_4) (by decide) (by decide) (by rw [e_89]; exact ⟨rfl, N0, rfl⟩)
--@E
--@C aln
def Q_aln (Z : State) (zc : Int32) (vfm : Value) (vus : Value) (vss : Value) (a1 : Addr) (n1 : Int32) (h0 : Heap) (n0 : Nat) (v : Option Value) (h : Heap) (L : List Loc) : Prop := v = some (.int n1) ∧ Fr n0 L ∧ h = h0
set_option maxRecDepth 65536 in
set_option maxHeartbeats 40000000 in
theorem rm_aln (l : Launch) (Z : State) (a0 : Array Value) (hw : ∀ d ∈ tables_1, d.before a0 Z = true) (zc : Int32) (vfm : Value) (vus : Value) (vss : Value) (a1 : Addr) (n1 : Int32) (h0 : Heap) (n0 : Nat) (Z0 : n0 ≤ h0.size) (F_n : Fld Z h0 a1 "java/lang/AbstractStringBuilder" "count" "I" (.int n1)) (hSt : St Z zc vfm vus vss) (hO : Old Z n0 h0) :
    CN l Z ({ cls := "java/lang/AbstractStringBuilder", name := "length", desc := "()I" } : Jvm.MethodName) [(Jvm.Cond.code ({ cls := "java/lang/AbstractStringBuilder", name := "length", desc := "()I" } : Jvm.MethodName) jdk_68_method_6_code (1 : Nat) (Option.some Jvm.ClassFile.FieldType.int))] ({ frames := 0, cells := 0, slots := 0, locals := 0 } : Room) #[(.ref a1)] h0 (Q_aln Z zc vfm vus vss a1 n1 h0 n0) := by
  refine CN.of (L0 := #[vR a1]) (plainFor_of_name pn_5) (fun m => by first | (simp [entryFrame, mkF, argsToLocals, Value.category]; done) | rfl) ?_
  intro p e s m below meth c s₁ hx hby hml hret hlk hZ hown hnm X0 e0
  have N0 := Fr.nil n0
  have KP0 := Keep.refl h0 []
  have hSt_ := hSt
  obtain ⟨S_cs, n_cs, S_fm, r_fm, S_us, r_us, S_ss, r_ss⟩ := hSt_
  show Go p e below _ (s₁.setTop (mkF m 0 #[vR a1] []))
  refine Go.step (fun _ k => XS.aloadN X0.here hx rfl (hb hby d_jdk_68_method_6_code_0) rfl rfl k) ?_
  show Go p e below _ (s₁.setTop (mkF m 1 #[vR a1] [(.ref a1)]))
  obtain ⟨T_90, X_90, e_90, st_90⟩ := getF X0 hx hZ hown (host := "") (Or.inl (wd_147 hw)) Via.refl e0 F_n (g := (mkF m 1 #[vR a1] [(.ref a1)])) rfl rfl (hb hby d_jdk_68_method_6_code_1)
  refine Go.step st_90 ?_
  show Go p e below _ (T_90.setTop (mkF m 4 #[vR a1] [(.int n1)]))
  exact Go.retV X_90 hx hlk hret rfl (Or.inl ⟨rfl, Or.inl rfl, _, rfl⟩) (hb hby d_jdk_68_method_6_code_4) (by decide) (by decide) (by rw [e_90]; exact ⟨rfl, N0, rfl⟩)
--@E
--@C sln
def Q_sln (Z : State) (zc : Int32) (vfm : Value) (vus : Value) (vss : Value) (a1 : Addr) (n1 : Int32) (h0 : Heap) (n0 : Nat) (v : Option Value) (h : Heap) (L : List Loc) : Prop := v = some (.int n1) ∧ Fr n0 L ∧ h = h0
set_option maxRecDepth 65536 in
set_option maxHeartbeats 40000000 in
theorem rm_sln (l : Launch) (Z : State) (a0 : Array Value) (hw : ∀ d ∈ tables_1, d.before a0 Z = true) (zc : Int32) (vfm : Value) (vus : Value) (vss : Value) (a1 : Addr) (n1 : Int32) (h0 : Heap) (n0 : Nat) (Z0 : n0 ≤ h0.size) (E_a1 : Exa Z h0 a1 "java/lang/StringBuilder") (F_n : Fld Z h0 a1 "java/lang/AbstractStringBuilder" "count" "I" (.int n1)) (hSt : St Z zc vfm vus vss) (hO : Old Z n0 h0) :
    CN l Z ({ cls := "java/lang/StringBuilder", name := "length", desc := "()I" } : Jvm.MethodName) [(Jvm.Cond.code ({ cls := "java/lang/StringBuilder", name := "length", desc := "()I" } : Jvm.MethodName) jdk_67_method_93_code (1 : Nat) (Option.some Jvm.ClassFile.FieldType.int))] ({ frames := 1, cells := 0, slots := 0, locals := 12 } : Room) #[(.ref a1)] h0 (Q_sln Z zc vfm vus vss a1 n1 h0 n0) := by
  refine CN.of (L0 := #[vR a1]) (plainFor_of_name pn_6) (fun m => by first | (simp [entryFrame, mkF, argsToLocals, Value.category]; done) | rfl) ?_
  intro p e s m below meth c s₁ hx hby hml hret hlk hZ hown hnm X0 e0
  have N0 := Fr.nil n0
  have KP0 := Keep.refl h0 []
  have hSt_ := hSt
  obtain ⟨S_cs, n_cs, S_fm, r_fm, S_us, r_us, S_ss, r_ss⟩ := hSt_
  show Go p e below _ (s₁.setTop (mkF m 0 #[vR a1] []))
  refine Go.step (fun _ k => XS.aloadN X0.here hx rfl (hb hby d_jdk_67_method_93_code_0) rfl rfl k) ?_
  show Go p e below _ (s₁.setTop (mkF m 1 #[vR a1] [(.ref a1)]))
  obtain ⟨v_91, T_91, L_91, X_91, hQ_91, st_91⟩ := goSup X0 hx hZ (y := Y_15) hown (wd_204 hw) (same_own (wd_200 hw) (wd_152 hw) rfl (by decide)) (wd_200 hw) (wd_134 hw) (by decide) (backOf (W := 0) (rm_aln l Z a0 hw zc vfm vus vss (a1) (n1) h0 n0 (Nat.le_trans Z0 KP0.1) F_n hSt hO) hZ (wd_205 hw) (wd_119 hw) (by decide) (by decide)) e0 (Ins.self E_a1) (wd_205 hw) (g := (mkF m 1 #[vR a1] [(.ref a1)])) rfl (by rw [hml]; rfl) (argsL := []) (rest := []) rfl (lenOf pd_4 rfl) rfl (by show 2 * 0 + _ ≤ _; exact Nat.le_of_eq rfl) (hb hby d_jdk_67_method_93_code_1) (by decide) (by decide)
  obtain ⟨rfl, Nq_91, e_91⟩ := hQ_91
  have N_91 := Fr.app N0 Nq_91
  refine Go.step st_91 ?_
  show Go p e below _ (T_91.setTop (mkF m 4 #[vR a1] [(.int n1)]))
  exact Go.retV X_91 hx hlk hret rfl (Or.inl ⟨rfl, Or.inl rfl, _, rfl⟩) (hb hby d_jdk_67_method_93_code_4) (by decide) (by decide) (by rw [e_91]; exact ⟨rfl, N_91, rfl⟩)
--@E
--@C ail
def Q_ail (Z : State) (zc : Int32) (vfm : Value) (vus : Value) (vss : Value) (a1 : Addr) (h0 : Heap) (n0 : Nat) (v : Option Value) (h : Heap) (L : List Loc) : Prop := v = some (.int (1 : Int32)) ∧ Fr n0 L ∧ h = h0
set_option maxRecDepth 65536 in
set_option maxHeartbeats 40000000 in
theorem rm_ail (l : Launch) (Z : State) (a0 : Array Value) (hw : ∀ d ∈ tables_1, d.before a0 Z = true) (zc : Int32) (vfm : Value) (vus : Value) (vss : Value) (a1 : Addr) (h0 : Heap) (n0 : Nat) (Z0 : n0 ≤ h0.size) (F_c : Fld Z h0 a1 "java/lang/AbstractStringBuilder" "coder" "B" (.int (0 : Int32))) (hSt : St Z zc vfm vus vss) (hO : Old Z n0 h0) :
    CN l Z ({ cls := "java/lang/AbstractStringBuilder", name := "isLatin1", desc := "()Z" } : Jvm.MethodName) [(Jvm.Cond.code ({ cls := "java/lang/AbstractStringBuilder", name := "isLatin1", desc := "()Z" } : Jvm.MethodName) jdk_68_method_68_code (1 : Nat) (Option.some Jvm.ClassFile.FieldType.boolean))] ({ frames := 0, cells := 0, slots := 0, locals := 0 } : Room) #[(.ref a1)] h0 (Q_ail Z zc vfm vus vss a1 h0 n0) := by
  refine CN.of (L0 := #[vR a1]) (plainFor_of_name pn_5) (fun m => by first | (simp [entryFrame, mkF, argsToLocals, Value.category]; done) | rfl) ?_
  intro p e s m below meth c s₁ hx hby hml hret hlk hZ hown hnm X0 e0
  have N0 := Fr.nil n0
  have KP0 := Keep.refl h0 []
  have hSt_ := hSt
  obtain ⟨S_cs, n_cs, S_fm, r_fm, S_us, r_us, S_ss, r_ss⟩ := hSt_
  show Go p e below _ (s₁.setTop (mkF m 0 #[vR a1] []))
  obtain ⟨T_92, X_92, e_92, st_92⟩ := getS2 X0 hx hZ hown (host := "") (Or.inl (wd_122 hw)) Via.refl e0 (S_cs.ext hO.2) (g := (mkF m 0 #[vR a1] [])) rfl (hb hby d_jdk_68_method_68_code_0)
  refine Go.step st_92 ?_
  show Go p e below _ (T_92.setTop (mkF m 3 #[vR a1] [(.int zc)]))
  refine Go.step (fun _ k => XS.ifNo X_92.here hx rfl (hb hby d_jdk_68_method_68_code_3) rfl ((if0 _ _).trans (feq (n_cs : ¬ (zc = (0 : Int32)))).1) k) ?_
  show Go p e below _ (T_92.setTop (mkF m 6 #[vR a1] []))
  refine Go.step (fun _ k => XS.aloadN X_92.here hx rfl (hb hby d_jdk_68_method_68_code_6) rfl rfl k) ?_
  show Go p e below _ (T_92.setTop (mkF m 7 #[vR a1] [(.ref a1)]))
  obtain ⟨T_93, X_93, e_93, st_93⟩ := getF X_92 hx hZ hown (host := "") (Or.inl (wd_125 hw)) Via.refl e_92 F_c (g := (mkF m 7 #[vR a1] [(.ref a1)])) rfl rfl (hb hby d_jdk_68_method_68_code_7)
  refine Go.step st_93 ?_
  show Go p e below _ (T_93.setTop (mkF m 10 #[vR a1] [(.int (0 : Int32))]))
  refine Go.step (fun _ k => XS.ifNo X_93.here hx rfl (hb hby d_jdk_68_method_68_code_10) rfl ((if0 _ _).trans (teq ((by decide) : (0 : Int32) = (0 : Int32))).2) k) ?_
  show Go p e below _ (T_93.setTop (mkF m 13 #[vR a1] []))
  refine Go.step (fun _ k => XS.iconst X_93.here hx rfl (hb hby d_jdk_68_method_68_code_13) k) ?_
  show Go p e below _ (T_93.setTop (mkF m 14 #[vR a1] [(.int (1 : Int32))]))
  refine Go.step (fun _ k => XS.goto X_93.here hx rfl (pc0 := 14) (pc' := 18) rfl (hb hby d_jdk_68_method_68_code_14) (by decide) (by decide) k) ?_
  show Go p e below _ (T_93.setTop (mkF m 18 #[vR a1] [(.int (1 : Int32))]))
  exact Go.retV X_93 hx hlk hret rfl (Or.inl ⟨rfl, Or.inr (Or.inl rfl), _, rfl⟩) (hb hby d_jdk_68_method_68_code_18) (by decide) (by decide) (by rw [e_93]; exact ⟨rfl, N0, rfl⟩)
--@E
--@C si2N
def Q_si2N (Z : State) (zc : Int32) (vfm : Value) (vus : Value) (vss : Value) (a1 : Addr) (b1 : Addr) (t1 : Addr) (k1 : ClassId) (z1 : Int32) (bs : List Int32) (cs : List Int32) (h0 : Heap) (n0 : Nat) (v : Option Value) (h : Heap) (L : List Loc) : Prop := ∃ (t : Addr) (kt : ClassId), v = none ∧ Fr n0 L ∧ Keep h0 h [a1] ∧ Exa Z h a1 "java/lang/String" ∧ Fld Z h a1 "java/lang/String" "value" "[B" (.ref t) ∧ Fld Z h a1 "java/lang/String" "coder" "B" (.int (0 : Int32)) ∧ Arv Z h t kt .byte (Int32.ofNat cs.length) ((cs.map fun c => c.toInt8.toInt32).map Value.int) (.int (0 : Int32))
set_option maxRecDepth 65536 in
set_option maxHeartbeats 40000000 in
theorem rm_si2N (l : Launch) (Z : State) (a0 : Array Value) (hw : ∀ d ∈ tables_1, d.before a0 Z = true) (zc : Int32) (vfm : Value) (vus : Value) (vss : Value) (a1 : Addr) (b1 : Addr) (t1 : Addr) (k1 : ClassId) (z1 : Int32) (bs : List Int32) (cs : List Int32) (h0 : Heap) (n0 : Nat) (Z0 : n0 ≤ h0.size) (E_a1 : Exa Z h0 a1 "java/lang/String") (F_a1v : Fld Z h0 a1 "java/lang/String" "value" "[B" .null) (F_a1c : Fld Z h0 a1 "java/lang/String" "coder" "B" (.int (0 : Int32))) (g_a1 : n0 ≤ a1) (E_b1 : Exa Z h0 b1 "java/lang/StringBuilder") (F_b1v : Fld Z h0 b1 "java/lang/AbstractStringBuilder" "value" "[B" (.ref t1)) (F_b1c : Fld Z h0 b1 "java/lang/AbstractStringBuilder" "coder" "B" (.int (0 : Int32))) (F_b1n : Fld Z h0 b1 "java/lang/AbstractStringBuilder" "count" "I" (.int (Int32.ofNat cs.length))) (A_t1 : Arv Z h0 t1 k1 .byte z1 (bs.map Value.int) (.int (0 : Int32))) (hz : (z1 = Int32.ofNat bs.length)) (hbs : (bs.length ≤ 100 ∧ cs.length < bs.length ∧ cs.length ≤ 40)) (hp : (bs.take cs.length = (cs.map fun c => c.toInt8.toInt32))) (hSt : St Z zc vfm vus vss) (hO : Old Z n0 h0) :
    CN l Z ({ cls := "java/lang/String", name := "<init>", desc := "(Ljava/lang/AbstractStringBuilder;Ljava/lang/Void;)V" } : Jvm.MethodName) [(Jvm.Cond.code ({ cls := "java/lang/String", name := "<init>", desc := "(Ljava/lang/AbstractStringBuilder;Ljava/lang/Void;)V" } : Jvm.MethodName) jdk_42_method_150_code (5 : Nat) (Option.none : Option Jvm.ClassFile.FieldType))] ({ frames := 3, cells := 1, slots := 40, locals := 49 } : Room) #[(.ref a1), (.ref b1), .null] h0 (Q_si2N Z zc vfm vus vss a1 b1 t1 k1 z1 bs cs h0 n0) := by
  refine CN.of (L0 := #[vR a1, vR b1, .val .null, vU, vU]) (plainFor_of_name pn_7) (fun m => by first | (simp [entryFrame, mkF, argsToLocals, Value.category]; done) | rfl) ?_
  intro p e s m below meth c s₁ hx hby hml hret hlk hZ hown hnm X0 e0
  have N0 := Fr.nil n0
  have KP0 := Keep.refl h0 [a1]
  have hSt_ := hSt
  obtain ⟨S_cs, n_cs, S_fm, r_fm, S_us, r_us, S_ss, r_ss⟩ := hSt_
  show Go p e below _ (s₁.setTop (mkF m 0 #[vR a1, vR b1, .val .null, vU, vU] []))
  refine Go.step (fun _ k => XS.aloadN X0.here hx rfl (hb hby d_jdk_42_method_150_code_0) rfl rfl k) ?_
  show Go p e below _ (s₁.setTop (mkF m 1 #[vR a1, vR b1, .val .null, vU, vU] [(.ref a1)]))
  obtain ⟨T_94, X_94, e_94, st_94⟩ := initO X0 hx hZ hown (wd_15 hw) (wd_16 hw) (wd_17 hw) e0 (g := (mkF m 1 #[vR a1, vR b1, .val .null, vU, vU] [(.ref a1)])) rfl (by rw [hml]; rfl) rfl (hb hby d_jdk_42_method_150_code_1) (by decide) (W := 0) (by show 2 * 0 + _ ≤ _; exact Nat.le_of_eq rfl) (by decide)
  refine Go.step st_94 ?_
  show Go p e below _ (T_94.setTop (mkF m 4 #[vR a1, vR b1, .val .null, vU, vU] []))
  refine Go.step (fun _ k => XS.aloadN X_94.here hx rfl (hb hby d_jdk_42_method_150_code_4) rfl rfl k) ?_
  show Go p e below _ (T_94.setTop (mkF m 5 #[vR a1, vR b1, .val .null, vU, vU] [(.ref b1)]))
  obtain ⟨v_95, T_95, L_95, X_95, hQ_95, st_95⟩ := goV X_94 hx hZ (y := Y_16) (z := Y_16) hown (wd_193 hw) (wd_194 hw) (notFace_of_selects (args := #[]) (mvT hZ (wd_196 hw))) (wd_196 hw) (wd_195 hw) (by decide) (backOf (W := 0) (rm_gv l Z a0 hw zc vfm vus vss (b1) (t1) h0 n0 (Nat.le_trans Z0 KP0.1) F_b1v hSt hO) hZ (wd_197 hw) (wd_119 hw) (by decide) (by decide)) e_94 E_b1 (g := (mkF m 5 #[vR a1, vR b1, .val .null, vU, vU] [(.ref b1)])) rfl (by rw [hml]; rfl) (argsL := []) (rest := []) rfl (lenOf pd_10 rfl) rfl (by show 2 * 0 + _ ≤ _; exact Nat.le_of_eq rfl) (hb hby d_jdk_42_method_150_code_5) (by decide) (by decide)
  obtain ⟨rfl, Nq_95, e_95⟩ := hQ_95
  have N_95 := Fr.app N0 Nq_95
  refine Go.step st_95 ?_
  show Go p e below _ (T_95.setTop (mkF m 8 #[vR a1, vR b1, .val .null, vU, vU] [(.ref t1)]))
  refine Go.step (fun _ k => XS.astoreN X_95.here hx rfl (hb hby d_jdk_42_method_150_code_8) rfl rfl (l' := #[vR a1, vR b1, .val .null, vR t1, vU]) rfl k) ?_
  show Go p e below _ (T_95.setTop (mkF m 9 #[vR a1, vR b1, .val .null, vR t1, vU] []))
  refine Go.step (fun _ k => XS.aloadN X_95.here hx rfl (hb hby d_jdk_42_method_150_code_9) rfl rfl k) ?_
  show Go p e below _ (T_95.setTop (mkF m 10 #[vR a1, vR b1, .val .null, vR t1, vU] [(.ref b1)]))
  obtain ⟨v_96, T_96, L_96, X_96, hQ_96, st_96⟩ := goV X_95 hx hZ (y := Y_15) (z := Y_17) hown (wd_198 hw) (wd_199 hw) (nf_own (args := #[]) (mvT hZ (wd_152 hw)) rfl) (wd_201 hw) (wd_202 hw) (by decide) (backOf (W := 0) (rm_sln l Z a0 hw zc vfm vus vss (b1) ((Int32.ofNat cs.length)) h0 n0 (Nat.le_trans Z0 KP0.1) E_b1 F_b1n hSt hO) hZ (wd_203 hw) (wd_111 hw) (by decide) (by decide)) e_95 E_b1 (g := (mkF m 10 #[vR a1, vR b1, .val .null, vR t1, vU] [(.ref b1)])) rfl (by rw [hml]; rfl) (argsL := []) (rest := []) rfl (lenOf pd_4 rfl) rfl (by show 2 * 0 + _ ≤ _; exact Nat.le_of_eq rfl) (hb hby d_jdk_42_method_150_code_10) (by decide) (by decide)
  obtain ⟨rfl, Nq_96, e_96⟩ := hQ_96
  have N_96 := Fr.app N_95 Nq_96
  refine Go.step st_96 ?_
  show Go p e below _ (T_96.setTop (mkF m 13 #[vR a1, vR b1, .val .null, vR t1, vU] [(.int (Int32.ofNat cs.length))]))
  refine Go.step (fun _ k => XS.istore X_96.here hx rfl (hb hby d_jdk_42_method_150_code_13) rfl (l' := #[vR a1, vR b1, .val .null, vR t1, vI (Int32.ofNat cs.length)]) rfl k) ?_
  show Go p e below _ (T_96.setTop (mkF m 15 #[vR a1, vR b1, .val .null, vR t1, vI (Int32.ofNat cs.length)] []))
  refine Go.step (fun _ k => XS.aloadN X_96.here hx rfl (hb hby d_jdk_42_method_150_code_15) rfl rfl k) ?_
  show Go p e below _ (T_96.setTop (mkF m 16 #[vR a1, vR b1, .val .null, vR t1, vI (Int32.ofNat cs.length)] [(.ref b1)]))
  obtain ⟨v_97, T_97, L_97, X_97, hQ_97, st_97⟩ := goV X_96 hx hZ (y := Y_18) (z := Y_18) hown (wd_206 hw) (wd_207 hw) (notFace_of_selects (args := #[]) (mvT hZ (wd_209 hw))) (wd_209 hw) (wd_208 hw) (by decide) (backOf (W := 0) (rm_ail l Z a0 hw zc vfm vus vss (b1) h0 n0 (Nat.le_trans Z0 KP0.1) F_b1c hSt hO) hZ (wd_210 hw) (wd_119 hw) (by decide) (by decide)) e_96 E_b1 (g := (mkF m 16 #[vR a1, vR b1, .val .null, vR t1, vI (Int32.ofNat cs.length)] [(.ref b1)])) rfl (by rw [hml]; rfl) (argsL := []) (rest := []) rfl (lenOf pd_11 rfl) rfl (by show 2 * 0 + _ ≤ _; exact Nat.le_of_eq rfl) (hb hby d_jdk_42_method_150_code_16) (by decide) (by decide)
  obtain ⟨rfl, Nq_97, e_97⟩ := hQ_97
  have N_97 := Fr.app N_96 Nq_97
  refine Go.step st_97 ?_
  show Go p e below _ (T_97.setTop (mkF m 19 #[vR a1, vR b1, .val .null, vR t1, vI (Int32.ofNat cs.length)] [(.int (1 : Int32))]))
  refine Go.step (fun _ k => XS.ifNo X_97.here hx rfl (hb hby d_jdk_42_method_150_code_19) rfl ((if0 _ _).trans (feq ((by decide) : ¬ ((1 : Int32) = (0 : Int32)))).1) k) ?_
  show Go p e below _ (T_97.setTop (mkF m 22 #[vR a1, vR b1, .val .null, vR t1, vI (Int32.ofNat cs.length)] []))
  refine Go.step (fun _ k => XS.aloadN X_97.here hx rfl (hb hby d_jdk_42_method_150_code_22) rfl rfl k) ?_
  refine Go.step (fun _ k => XS.iconst X_97.here hx rfl (hb hby d_jdk_42_method_150_code_23) k) ?_
  show Go p e below _ (T_97.setTop (mkF m 24 #[vR a1, vR b1, .val .null, vR t1, vI (Int32.ofNat cs.length)] [(.int (0 : Int32)), (.ref a1)]))
  obtain ⟨T_98, h_98, X_98, e_98, W_98, st_98⟩ := putFN X_97 hx hZ hown (wd_30 hw) Via.refl e_97 F_a1c E_a1 (Or.inr ⟨(wd_31 hw), rfl, hnm⟩) (wd_5 hw) (ty := .byte) (v' := (.int (0 : Int32))) pf_6 rfl (by decide) (g := (mkF m 24 #[vR a1, vR b1, .val .null, vR t1, vI (Int32.ofNat cs.length)] [(.int (0 : Int32)), (.ref a1)])) rfl rfl (hb hby d_jdk_42_method_150_code_24)
  refine Go.step st_98 ?_
  have N_98 := Fr.snoc X_98 N_97 g_a1
  have le_98 : h0.size ≤ h_98.size := Nat.le_of_eq W_98.size.symm
  have KP_98 := KP0.wr W_98 (Or.inl (List.mem_of_getElem? (i := 0) rfl))
  have O_98 := hO.wr W_98 g_a1
  have F_98 : Fld Z h_98 a1 "java/lang/String" "coder" "B" (.int (0 : Int32)) := F_a1c.same W_98
  show Go p e below _ (T_98.setTop (mkF m 27 #[vR a1, vR b1, .val .null, vR t1, vI (Int32.ofNat cs.length)] []))
  refine Go.step (fun _ k => XS.aloadN X_98.here hx rfl (hb hby d_jdk_42_method_150_code_27) rfl rfl k) ?_
  refine Go.step (fun _ k => XS.aloadN X_98.here hx rfl (hb hby d_jdk_42_method_150_code_28) rfl rfl k) ?_
  refine Go.step (fun _ k => XS.iconst X_98.here hx rfl (hb hby d_jdk_42_method_150_code_29) k) ?_
  show Go p e below _ (T_98.setTop (mkF m 30 #[vR a1, vR b1, .val .null, vR t1, vI (Int32.ofNat cs.length)] [(.int (0 : Int32)), (.ref t1), (.ref a1)]))
  refine Go.step (fun _ k => XS.iload X_98.here hx rfl (hb hby d_jdk_42_method_150_code_30) rfl  k) ?_
  show Go p e below _ (T_98.setTop (mkF m 32 #[vR a1, vR b1, .val .null, vR t1, vI (Int32.ofNat cs.length)] [(.int (Int32.ofNat cs.length)), (.int (0 : Int32)), (.ref t1), (.ref a1)]))
  refine own_top (congrArg Value.int (show (Int32.ofNat cs.length) = (Int32.ofNat (0 + cs.length)) from by rw [Nat.zero_add])) ?_
  show Go p e below _ (T_98.setTop (mkF m 32 #[vR a1, vR b1, .val .null, vR t1, vI (Int32.ofNat cs.length)] [(.int (Int32.ofNat (0 + cs.length))), (.int (0 : Int32)), (.ref t1), (.ref a1)]))
  have f99 : Arv Z h_98 t1 k1 .byte z1 (bs.map Value.int) (.int (0 : Int32)) := (A_t1.other W_98 (Ne.symm (Exa.neArv E_a1 A_t1 (wd_5 hw))))
  obtain ⟨v_100, T_100, L_100, X_100, hQ_100, st_100⟩ := goS X_98 hx hZ (y := Y_19) hown (wd_211 hw) (wd_212 hw) (wd_213 hw) (wd_214 hw) (by decide) (backOf (W := 1) (rm_crN l Z a0 hw zc vfm vus vss (t1) (k1) (z1) (bs) (0) (cs.length) h_98 n0 (Nat.le_trans Z0 KP_98.1) f99 hz hbs.1 (by omega) (fun _ => by omega) hSt O_98) hZ (wd_214 hw) (wd_213 hw) (by decide) (by decide)) e_98 (g := (mkF m 32 #[vR a1, vR b1, .val .null, vR t1, vI (Int32.ofNat cs.length)] [(.int (Int32.ofNat (0 + cs.length))), (.int (0 : Int32)), (.ref t1), (.ref a1)])) rfl (by rw [hml]; rfl) (argsL := [(.ref t1), (.int (0 : Int32)), (.int (Int32.ofNat (0 + cs.length)))]) (rest := [(.ref a1)]) rfl (lenOf pd_9 rfl) rfl (by show 2 * 0 + _ ≤ _; exact Nat.le_of_eq rfl) (hb hby d_jdk_42_method_150_code_32) (by decide) (by decide)
  obtain ⟨r_100, kr_100, rfl, Nq_100, K_100, u0_100, u1_100⟩ := hQ_100
  have N_100 := Fr.app N_98 Nq_100
  have le_100 : h_98.size ≤ T_100.heap.size := K_100.1
  have KP_100 := KP_98.trans K_100 all0
  have O_100 := O_98.keep K_100 all0
  have sz_r_100 : h0.size ≤ r_100 := Nat.le_trans le_98 u0_100
  have g_r_100 : n0 ≤ r_100 := Nat.le_trans Z0 sz_r_100
  refine Go.step st_100 ?_
  show Go p e below _ (T_100.setTop (mkF m 35 #[vR a1, vR b1, .val .null, vR t1, vI (Int32.ofNat cs.length)] [(.ref r_100), (.ref a1)]))
  have f101 : Exa Z T_100.heap a1 "java/lang/String" := ((E_a1.wr W_98).keep K_100)
  have f102 : Fld Z T_100.heap a1 "java/lang/String" "value" "[B" .null := ((F_a1v.other W_98 (Or.inr (sn_16 hw))).keep K_100 nin0)
  obtain ⟨T_103, h_103, X_103, e_103, W_103, st_103⟩ := putF X_100 hx hZ hown (host := "") (Or.inl (wd_32 hw)) Via.refl rfl f102 f101 (Or.inr ⟨(wd_33 hw), rfl, hnm⟩) (wd_5 hw) (ty := (.array .byte)) pf_5 rfl rfl (g := (mkF m 35 #[vR a1, vR b1, .val .null, vR t1, vI (Int32.ofNat cs.length)] [(.ref r_100), (.ref a1)])) rfl rfl (hb hby d_jdk_42_method_150_code_35)
  refine Go.step st_103 ?_
  have N_103 := Fr.snoc X_103 N_100 g_a1
  have le_103 : T_100.heap.size ≤ h_103.size := Nat.le_of_eq W_103.size.symm
  have KP_103 := KP_100.wr W_103 (Or.inl (List.mem_of_getElem? (i := 0) rfl))
  have O_103 := O_100.wr W_103 g_a1
  have F_103 : Fld Z h_103 a1 "java/lang/String" "value" "[B" (.ref r_100) := f102.same W_103
  show Go p e below _ (T_103.setTop (mkF m 38 #[vR a1, vR b1, .val .null, vR t1, vI (Int32.ofNat cs.length)] []))
  refine Go.step (fun _ k => XS.goto X_103.here hx rfl (pc0 := 38) (pc' := 97) rfl (hb hby d_jdk_42_method_150_code_38) (by decide) (by decide) k) ?_
  show Go p e below _ (T_103.setTop (mkF m 97 #[vR a1, vR b1, .val .null, vR t1, vI (Int32.ofNat cs.length)] []))
  have f104 : Arv Z h_103 r_100 kr_100 .byte (Int32.ofNat cs.length) (((bs.drop 0).take cs.length).map Value.int) (.int (0 : Int32)) := (u1_100.other W_103 (Ne.symm (Nat.ne_of_lt (Nat.lt_of_lt_of_le E_a1.lt (Nat.le_trans le_98 u0_100)))))
  have Ac105 : Arv Z h_103 r_100 kr_100 .byte (Int32.ofNat cs.length) ((cs.map fun c => c.toInt8.toInt32).map Value.int) (.int (0 : Int32)) := by
    have q := f104
    rw [show (bs.drop 0).take cs.length = (cs.map fun c => c.toInt8.toInt32) from hp] at q
    exact q
  have f106 : Exa Z h_103 a1 "java/lang/String" := (f101.wr W_103)
  have f107 : Fld Z h_103 a1 "java/lang/String" "coder" "B" (.int (0 : Int32)) := ((F_98.keep K_100 nin0).other W_103 (Or.inr (sn_17 hw)))
  exact Go.ret0 X_103 hx hlk hret (hb hby d_jdk_42_method_150_code_97) (by decide) (by decide) (by rw [e_103]; exact ⟨r_100, kr_100, rfl, N_103, KP_103, f106, F_103, f107, Ac105⟩)
--@E
--@C si1N
def Q_si1N (Z : State) (zc : Int32) (vfm : Value) (vus : Value) (vss : Value) (a1 : Addr) (b1 : Addr) (t1 : Addr) (k1 : ClassId) (z1 : Int32) (bs : List Int32) (cs : List Int32) (h0 : Heap) (n0 : Nat) (v : Option Value) (h : Heap) (L : List Loc) : Prop := ∃ (t : Addr) (kt : ClassId), v = none ∧ Fr n0 L ∧ Keep h0 h [a1] ∧ Exa Z h a1 "java/lang/String" ∧ Fld Z h a1 "java/lang/String" "value" "[B" (.ref t) ∧ Fld Z h a1 "java/lang/String" "coder" "B" (.int (0 : Int32)) ∧ Arv Z h t kt .byte (Int32.ofNat cs.length) ((cs.map fun c => c.toInt8.toInt32).map Value.int) (.int (0 : Int32))
set_option maxRecDepth 65536 in
set_option maxHeartbeats 40000000 in
theorem rm_si1N (l : Launch) (Z : State) (a0 : Array Value) (hw : ∀ d ∈ tables_1, d.before a0 Z = true) (zc : Int32) (vfm : Value) (vus : Value) (vss : Value) (a1 : Addr) (b1 : Addr) (t1 : Addr) (k1 : ClassId) (z1 : Int32) (bs : List Int32) (cs : List Int32) (h0 : Heap) (n0 : Nat) (Z0 : n0 ≤ h0.size) (E_a1 : Exa Z h0 a1 "java/lang/String") (F_a1v : Fld Z h0 a1 "java/lang/String" "value" "[B" .null) (F_a1c : Fld Z h0 a1 "java/lang/String" "coder" "B" (.int (0 : Int32))) (g_a1 : n0 ≤ a1) (E_b1 : Exa Z h0 b1 "java/lang/StringBuilder") (F_b1v : Fld Z h0 b1 "java/lang/AbstractStringBuilder" "value" "[B" (.ref t1)) (F_b1c : Fld Z h0 b1 "java/lang/AbstractStringBuilder" "coder" "B" (.int (0 : Int32))) (F_b1n : Fld Z h0 b1 "java/lang/AbstractStringBuilder" "count" "I" (.int (Int32.ofNat cs.length))) (A_t1 : Arv Z h0 t1 k1 .byte z1 (bs.map Value.int) (.int (0 : Int32))) (hz : (z1 = Int32.ofNat bs.length)) (hbs : (bs.length ≤ 100 ∧ cs.length < bs.length ∧ cs.length ≤ 40)) (hp : (bs.take cs.length = (cs.map fun c => c.toInt8.toInt32))) (hSt : St Z zc vfm vus vss) (hO : Old Z n0 h0) :
    CN l Z ({ cls := "java/lang/String", name := "<init>", desc := "(Ljava/lang/StringBuilder;)V" } : Jvm.MethodName) [(Jvm.Cond.code ({ cls := "java/lang/String", name := "<init>", desc := "(Ljava/lang/StringBuilder;)V" } : Jvm.MethodName) jdk_42_method_53_code (2 : Nat) (Option.none : Option Jvm.ClassFile.FieldType))] ({ frames := 4, cells := 1, slots := 40, locals := 65 } : Room) #[(.ref a1), (.ref b1)] h0 (Q_si1N Z zc vfm vus vss a1 b1 t1 k1 z1 bs cs h0 n0) := by
  refine CN.of (L0 := #[vR a1, vR b1]) (plainFor_of_name pn_7) (fun m => by first | (simp [entryFrame, mkF, argsToLocals, Value.category]; done) | rfl) ?_
  intro p e s m below meth c s₁ hx hby hml hret hlk hZ hown hnm X0 e0
  have N0 := Fr.nil n0
  have KP0 := Keep.refl h0 [a1]
  have hSt_ := hSt
  obtain ⟨S_cs, n_cs, S_fm, r_fm, S_us, r_us, S_ss, r_ss⟩ := hSt_
  show Go p e below _ (s₁.setTop (mkF m 0 #[vR a1, vR b1] []))
  refine Go.step (fun _ k => XS.aloadN X0.here hx rfl (hb hby d_jdk_42_method_53_code_0) rfl rfl k) ?_
  refine Go.step (fun _ k => XS.aloadN X0.here hx rfl (hb hby d_jdk_42_method_53_code_1) rfl rfl k) ?_
  refine Go.step (fun _ k => XS.aconstNull X0.here hx rfl (hb hby d_jdk_42_method_53_code_2) k) ?_
  show Go p e below _ (s₁.setTop (mkF m 3 #[vR a1, vR b1] [.null, (.ref b1), (.ref a1)]))
  obtain ⟨v_108, T_108, L_108, X_108, hQ_108, st_108⟩ := goC X0 hx hZ (y := Y_20) hown rfl (wd_190 hw) (wd_191 hw) (wd_192 hw) (by decide) (backOf (W := 0) (rm_si2N l Z a0 hw zc vfm vus vss (a1) (b1) (t1) (k1) (z1) (bs) (cs) h0 n0 (Nat.le_trans Z0 KP0.1) E_a1 F_a1v F_a1c g_a1 E_b1 F_b1v F_b1c F_b1n A_t1 hz hbs hp hSt hO) hZ (wd_192 hw) (wd_6 hw) (by decide) (by decide)) e0 (g := (mkF m 3 #[vR a1, vR b1] [.null, (.ref b1), (.ref a1)])) rfl (by rw [hml]; rfl) (a := a1) (argsL := [(.ref b1), .null]) (rest := []) rfl (lenOf pd_12 rfl) rfl (by show 2 * 0 + _ ≤ _; exact Nat.le_of_eq rfl) (hb hby d_jdk_42_method_53_code_3) (by decide) (by decide)
  obtain ⟨t_108, kt_108, rfl, Nq_108, K_108, u0_108, u1_108, u2_108, u3_108⟩ := hQ_108
  have N_108 := Fr.app N0 Nq_108
  have le_108 : h0.size ≤ T_108.heap.size := K_108.1
  have KP_108 := KP0.trans K_108 (allS (Or.inl (List.mem_of_getElem? (i := 0) rfl)) all0)
  have O_108 := hO.keep K_108 (allS g_a1 all0)
  refine Go.step st_108 ?_
  show Go p e below _ (T_108.setTop (mkF m 6 #[vR a1, vR b1] []))
  exact Go.ret0 X_108 hx hlk hret (hb hby d_jdk_42_method_53_code_6) (by decide) (by decide) (by exact ⟨t_108, kt_108, rfl, N_108, KP_108, u0_108, u1_108, u2_108, u3_108⟩)
--@E
--@C tsN
def Q_tsN (Z : State) (zc : Int32) (vfm : Value) (vus : Value) (vss : Value) (b1 : Addr) (t1 : Addr) (k1 : ClassId) (z1 : Int32) (bs : List Int32) (cs : List Int32) (h0 : Heap) (n0 : Nat) (v : Option Value) (h : Heap) (L : List Loc) : Prop := ∃ (r : Addr), v = some (.ref r) ∧ Fr n0 L ∧ Keep h0 h [] ∧ h0.size ≤ r ∧ Str Z h.size h r cs
set_option maxRecDepth 65536 in
set_option maxHeartbeats 40000000 in
theorem rm_tsN (l : Launch) (Z : State) (a0 : Array Value) (hw : ∀ d ∈ tables_1, d.before a0 Z = true) (zc : Int32) (vfm : Value) (vus : Value) (vss : Value) (b1 : Addr) (t1 : Addr) (k1 : ClassId) (z1 : Int32) (bs : List Int32) (cs : List Int32) (h0 : Heap) (n0 : Nat) (Z0 : n0 ≤ h0.size) (E_b1 : Exa Z h0 b1 "java/lang/StringBuilder") (F_b1v : Fld Z h0 b1 "java/lang/AbstractStringBuilder" "value" "[B" (.ref t1)) (F_b1c : Fld Z h0 b1 "java/lang/AbstractStringBuilder" "coder" "B" (.int (0 : Int32))) (F_b1n : Fld Z h0 b1 "java/lang/AbstractStringBuilder" "count" "I" (.int (Int32.ofNat cs.length))) (A_t1 : Arv Z h0 t1 k1 .byte z1 (bs.map Value.int) (.int (0 : Int32))) (hz : (z1 = Int32.ofNat bs.length)) (hbs : (bs.length ≤ 100 ∧ cs.length < bs.length ∧ cs.length ≤ 40)) (hp : (bs.take cs.length = (cs.map fun c => c.toInt8.toInt32))) (hlat : (∀ c ∈ cs, ¬ c < 0 ∧ ¬ (255 : Int32) < c)) (hSt : St Z zc vfm vus vss) (hO : Old Z n0 h0) :
    CN l Z ({ cls := "java/lang/StringBuilder", name := "toString", desc := "()Ljava/lang/String;" } : Jvm.MethodName) [(Jvm.Cond.code ({ cls := "java/lang/StringBuilder", name := "toString", desc := "()Ljava/lang/String;" } : Jvm.MethodName) jdk_67_method_42_code (1 : Nat) (Option.some (Jvm.ClassFile.FieldType.object "java/lang/String")))] ({ frames := 5, cells := 2, slots := 44, locals := 79 } : Room) #[(.ref b1)] h0 (Q_tsN Z zc vfm vus vss b1 t1 k1 z1 bs cs h0 n0) := by
  refine CN.of (L0 := #[vR b1]) (plainFor_of_name pn_6) (fun m => by first | (simp [entryFrame, mkF, argsToLocals, Value.category]; done) | rfl) ?_
  intro p e s m below meth c s₁ hx hby hml hret hlk hZ hown hnm X0 e0
  have N0 := Fr.nil n0
  have KP0 := Keep.refl h0 []
  have hSt_ := hSt
  obtain ⟨S_cs, n_cs, S_fm, r_fm, S_us, r_us, S_ss, r_ss⟩ := hSt_
  show Go p e below _ (s₁.setTop (mkF m 0 #[vR b1] []))
  obtain ⟨T_109, h_109, X_109, e_109, E_109, A_109, D_109, Un_109, st_109⟩ := newO X0 hx hZ hown (wd_186 hw) (wd_5 hw) (wd_6 hw) e0 (g := (mkF m 0 #[vR b1] [])) rfl (hb hby d_jdk_67_method_42_code_0) (by decide) (by decide)
  obtain ⟨b109, q_109⟩ : ∃ z, z = h0.size := ⟨_, rfl⟩
  rw [← q_109] at A_109 D_109 Un_109 st_109
  refine Go.step st_109 ?_
  have le_109 : h0.size ≤ h_109.size := E_109.1
  have KP_109 := KP0.ext E_109
  have O_109 := hO.ext E_109
  have ge_109 : h0.size ≤ b109 := Nat.le_of_eq q_109.symm
  have sz_b109 : h0.size ≤ b109 := Nat.le_trans (Nat.le_refl _) ge_109
  have g_b109 : n0 ≤ b109 := Nat.le_trans Z0 sz_b109
  have F_109_31 : Fld Z h_109 b109 "java/lang/String" "coder" "B" (.int (0 : Int32)) := D_109 (Or.inr (wd_31 hw)) (ty := .byte) pf_6
  have F_109_33 : Fld Z h_109 b109 "java/lang/String" "value" "[B" .null := D_109 (Or.inr (wd_33 hw)) (ty := (.array .byte)) pf_5
  show Go p e below _ (T_109.setTop (mkF m 3 #[vR b1] [(.ref b109)]))
  refine Go.step (fun _ k => XS.dup X_109.here hx rfl (hb hby d_jdk_67_method_42_code_3) rfl rfl k) ?_
  refine Go.step (fun _ k => XS.aloadN X_109.here hx rfl (hb hby d_jdk_67_method_42_code_4) rfl rfl k) ?_
  show Go p e below _ (T_109.setTop (mkF m 5 #[vR b1] [(.ref b1), (.ref b109), (.ref b109)]))
  have f110 : Exa Z h_109 b1 "java/lang/StringBuilder" := (E_b1.ext E_109)
  have f111 : Fld Z h_109 b1 "java/lang/AbstractStringBuilder" "value" "[B" (.ref t1) := (F_b1v.ext E_109)
  have f112 : Fld Z h_109 b1 "java/lang/AbstractStringBuilder" "coder" "B" (.int (0 : Int32)) := (F_b1c.ext E_109)
  have f113 : Fld Z h_109 b1 "java/lang/AbstractStringBuilder" "count" "I" (.int (Int32.ofNat cs.length)) := (F_b1n.ext E_109)
  have f114 : Arv Z h_109 t1 k1 .byte z1 (bs.map Value.int) (.int (0 : Int32)) := (A_t1.ext E_109)
  obtain ⟨v_115, T_115, L_115, X_115, hQ_115, st_115⟩ := goC X_109 hx hZ (y := Y_21) hown rfl (wd_187 hw) (wd_188 hw) (wd_189 hw) (by decide) (backOf (W := 1) (rm_si1N l Z a0 hw zc vfm vus vss (b109) (b1) (t1) (k1) (z1) (bs) (cs) h_109 n0 (Nat.le_trans Z0 KP_109.1) A_109 F_109_33 F_109_31 g_b109 f110 f111 f112 f113 f114 hz hbs hp hSt O_109) hZ (wd_189 hw) (wd_6 hw) (by decide) (by decide)) e_109 (g := (mkF m 5 #[vR b1] [(.ref b1), (.ref b109), (.ref b109)])) rfl (by rw [hml]; rfl) (a := b109) (argsL := [(.ref b1)]) (rest := [(.ref b109)]) rfl (lenOf pd_13 rfl) rfl (by show 2 * 0 + _ ≤ _; exact Nat.le_of_eq rfl) (hb hby d_jdk_67_method_42_code_5) (by decide) (by decide)
  obtain ⟨t_115, kt_115, rfl, Nq_115, K_115, u0_115, u1_115, u2_115, u3_115⟩ := hQ_115
  have N_115 := Fr.app N0 Nq_115
  have le_115 : h_109.size ≤ T_115.heap.size := K_115.1
  have KP_115 := KP_109.trans K_115 (allS (Or.inr sz_b109) all0)
  have O_115 := O_109.keep K_115 (allS g_b109 all0)
  refine Go.step st_115 ?_
  show Go p e below _ (T_115.setTop (mkF m 8 #[vR b1] [(.ref b109)]))
  have Sx116 : Str Z (T_115.heap).size (T_115.heap) b109 cs := ⟨t_115, kt_115, u0_115.lt, u3_115.lt, u0_115, u1_115, u2_115, u3_115, hlat, (by omega)⟩
  exact Go.retV X_115 hx hlk hret rfl (Or.inr (Or.inr (Or.inr (Or.inr ⟨rfl, rfl, rfl⟩)))) (hb hby d_jdk_67_method_42_code_8) (by decide) (by decide) (by exact ⟨b109, rfl, N_115, KP_115, sz_b109, Sx116⟩)
--@E
--@C gm
def Q_gm (Z : State) (zc : Int32) (vfm : Value) (vus : Value) (vss : Value) (a1 : Addr) (m1 : Addr) (h0 : Heap) (n0 : Nat) (v : Option Value) (h : Heap) (L : List Loc) : Prop := v = some (.ref m1) ∧ Fr n0 L ∧ h = h0
set_option maxRecDepth 65536 in
set_option maxHeartbeats 40000000 in
theorem rm_gm (l : Launch) (Z : State) (a0 : Array Value) (hw : ∀ d ∈ tables_1, d.before a0 Z = true) (zc : Int32) (vfm : Value) (vus : Value) (vss : Value) (a1 : Addr) (m1 : Addr) (h0 : Heap) (n0 : Nat) (Z0 : n0 ≤ h0.size) (F_m : Fld Z h0 a1 "java/lang/Throwable" "detailMessage" "Ljava/lang/String;" (.ref m1)) (hSt : St Z zc vfm vus vss) (hO : Old Z n0 h0) :
    CN l Z ({ cls := "java/lang/Throwable", name := "getMessage", desc := "()Ljava/lang/String;" } : Jvm.MethodName) [(Jvm.Cond.code ({ cls := "java/lang/Throwable", name := "getMessage", desc := "()Ljava/lang/String;" } : Jvm.MethodName) jdk_78_method_6_code (1 : Nat) (Option.some (Jvm.ClassFile.FieldType.object "java/lang/String")))] ({ frames := 0, cells := 0, slots := 0, locals := 0 } : Room) #[(.ref a1)] h0 (Q_gm Z zc vfm vus vss a1 m1 h0 n0) := by
  refine CN.of (L0 := #[vR a1]) (plainFor_of_name pn_0) (fun m => by first | (simp [entryFrame, mkF, argsToLocals, Value.category]; done) | rfl) ?_
  intro p e s m below meth c s₁ hx hby hml hret hlk hZ hown hnm X0 e0
  have N0 := Fr.nil n0
  have KP0 := Keep.refl h0 []
  have hSt_ := hSt
  obtain ⟨S_cs, n_cs, S_fm, r_fm, S_us, r_us, S_ss, r_ss⟩ := hSt_
  show Go p e below _ (s₁.setTop (mkF m 0 #[vR a1] []))
  refine Go.step (fun _ k => XS.aloadN X0.here hx rfl (hb hby d_jdk_78_method_6_code_0) rfl rfl k) ?_
  show Go p e below _ (s₁.setTop (mkF m 1 #[vR a1] [(.ref a1)]))
  obtain ⟨T_117, X_117, e_117, st_117⟩ := getF X0 hx hZ hown (host := "") (Or.inl (wd_102 hw)) Via.refl e0 F_m (g := (mkF m 1 #[vR a1] [(.ref a1)])) rfl rfl (hb hby d_jdk_78_method_6_code_1)
  refine Go.step st_117 ?_
  show Go p e below _ (T_117.setTop (mkF m 4 #[vR a1] [(.ref m1)]))
  exact Go.retV X_117 hx hlk hret rfl (Or.inr (Or.inr (Or.inr (Or.inr ⟨rfl, rfl, rfl⟩)))) (hb hby d_jdk_78_method_6_code_4) (by decide) (by decide) (by rw [e_117]; exact ⟨rfl, N0, rfl⟩)
--@E
--@C eqS
def Q_eqS (Z : State) (zc : Int32) (vfm : Value) (vus : Value) (vss : Value) (a1 : Addr) (h0 : Heap) (n0 : Nat) (v : Option Value) (h : Heap) (L : List Loc) : Prop := v = some (.int (1 : Int32)) ∧ Fr n0 L ∧ h = h0
set_option maxRecDepth 65536 in
set_option maxHeartbeats 40000000 in
theorem rm_eqS (l : Launch) (Z : State) (a0 : Array Value) (hw : ∀ d ∈ tables_1, d.before a0 Z = true) (zc : Int32) (vfm : Value) (vus : Value) (vss : Value) (a1 : Addr) (h0 : Heap) (n0 : Nat) (Z0 : n0 ≤ h0.size) (hSt : St Z zc vfm vus vss) (hO : Old Z n0 h0) :
    CN l Z ({ cls := "java/lang/String", name := "equals", desc := "(Ljava/lang/Object;)Z" } : Jvm.MethodName) [(Jvm.Cond.code ({ cls := "java/lang/String", name := "equals", desc := "(Ljava/lang/Object;)Z" } : Jvm.MethodName) jdk_42_method_66_code (3 : Nat) (Option.some Jvm.ClassFile.FieldType.boolean))] ({ frames := 0, cells := 0, slots := 0, locals := 0 } : Room) #[(.ref a1), (.ref a1)] h0 (Q_eqS Z zc vfm vus vss a1 h0 n0) := by
  refine CN.of (L0 := #[vR a1, vR a1, vU]) (plainFor_of_name pn_7) (fun m => by first | (simp [entryFrame, mkF, argsToLocals, Value.category]; done) | rfl) ?_
  intro p e s m below meth c s₁ hx hby hml hret hlk hZ hown hnm X0 e0
  have N0 := Fr.nil n0
  have KP0 := Keep.refl h0 []
  have hSt_ := hSt
  obtain ⟨S_cs, n_cs, S_fm, r_fm, S_us, r_us, S_ss, r_ss⟩ := hSt_
  show Go p e below _ (s₁.setTop (mkF m 0 #[vR a1, vR a1, vU] []))
  refine Go.step (fun _ k => XS.aloadN X0.here hx rfl (hb hby d_jdk_42_method_66_code_0) rfl rfl k) ?_
  refine Go.step (fun _ k => XS.aloadN X0.here hx rfl (hb hby d_jdk_42_method_66_code_1) rfl rfl k) ?_
  show Go p e below _ (s₁.setTop (mkF m 2 #[vR a1, vR a1, vU] [(.ref a1), (.ref a1)]))
  refine Go.step (fun _ k => Jvm.RoadKit.acmp (g := (mkF m 2 #[vR a1, vR a1, vU] [(.ref a1), (.ref a1)])) X0 hx rfl rfl rfl (pc0 := 2) (pc' := 5) (same := true) rfl (hb hby d_jdk_42_method_66_code_2) rfl (decide_eq_true rfl) (by decide) (by decide) k) ?_
  show Go p e below _ (s₁.setTop (mkF m 5 #[vR a1, vR a1, vU] []))
  refine Go.step (fun _ k => XS.iconst X0.here hx rfl (hb hby d_jdk_42_method_66_code_5) k) ?_
  show Go p e below _ (s₁.setTop (mkF m 6 #[vR a1, vR a1, vU] [(.int (1 : Int32))]))
  exact Go.retV X0 hx hlk hret rfl (Or.inl ⟨rfl, Or.inr (Or.inl rfl), _, rfl⟩) (hb hby d_jdk_42_method_66_code_6) (by decide) (by decide) (by rw [e0]; exact ⟨rfl, N0, rfl⟩)
--@E
theorem lat_app {xs ys : List Int32} (h : ∀ c ∈ xs, ¬ c < 0 ∧ ¬ (255 : Int32) < c) (h2 : ∀ c ∈ ys, ¬ c < 0 ∧ ¬ (255 : Int32) < c) : ∀ c ∈ xs ++ ys, ¬ c < 0 ∧ ¬ (255 : Int32) < c := fun c hc => (List.mem_append.mp hc).elim (h c) (h2 c)
--@C within
def Q_within (Z : State) (zc : Int32) (vfm : Value) (vus : Value) (vss : Value) (a1 : Addr) (d1 : Addr) (p1 : Addr) (ps : List Int32) (ds : List Int32) (h0 : Heap) (n0 : Nat) (v : Option Value) (h : Heap) (L : List Loc) : Prop := ∃ (r : Addr) (mm : Addr), v = some (.ref r) ∧ Fr n0 L ∧ Keep h0 h [] ∧ Fld Z h r "java/lang/Throwable" "detailMessage" "Ljava/lang/String;" (.ref mm) ∧ h0.size ≤ r ∧ Exa Z h r "com/example/hallstatt/hallstatt/InvalidValueException" ∧ Str Z h.size h mm ((ps ++ ([(46 : Int32)] : List Int32)) ++ ds)
set_option maxRecDepth 65536 in
set_option maxHeartbeats 40000000 in
theorem rm_within (l : Launch) (Z : State) (a0 : Array Value) (hw : ∀ d ∈ tables_1, d.before a0 Z = true) (zc : Int32) (vfm : Value) (vus : Value) (vss : Value) (a1 : Addr) (d1 : Addr) (p1 : Addr) (ps : List Int32) (ds : List Int32) (h0 : Heap) (n0 : Nat) (Z0 : n0 ≤ h0.size) (E_a1 : Exa Z h0 a1 "com/example/hallstatt/hallstatt/InvalidValueException") (F_a1 : Fld Z h0 a1 "java/lang/Throwable" "detailMessage" "Ljava/lang/String;" (.ref d1)) (S_p1 : Str Z h0.size h0 p1 ps) (S_d1 : Str Z h0.size h0 d1 ds) (hpd : (ps.length ≤ 2 ∧ ds.length ≤ 2)) (hl : (l.stackTraces = true)) (hSt : St Z zc vfm vus vss) (hO : Old Z n0 h0) :
    CK l Z EL ({ cls := "com/example/hallstatt/hallstatt/InvalidValueException", name := "within", desc := "(Ljava/lang/String;)Lcom/example/hallstatt/hallstatt/InvalidValueException;" } : Jvm.MethodName) [(Jvm.Cond.code ({ cls := "com/example/hallstatt/hallstatt/InvalidValueException", name := "within", desc := "(Ljava/lang/String;)Lcom/example/hallstatt/hallstatt/InvalidValueException;" } : Jvm.MethodName) prog_3_method_2_code (2 : Nat) (Option.some (Jvm.ClassFile.FieldType.object "com/example/hallstatt/hallstatt/InvalidValueException")))] ({ frames := 8, cells := 8, slots := 2830, locals := 108 } : Room) #[(.ref a1), (.ref p1)] h0 (Q_within Z zc vfm vus vss a1 d1 p1 ps ds h0 n0) := by
  refine CK.of (L0 := #[vR a1, vR p1]) (plainFor_of_name pn_4) (fun m => by first | (simp [entryFrame, mkF, argsToLocals, Value.category]; done) | rfl) ?_
  intro p e s m below meth c s₁ hx hby hml hret hlk hZ hown hnm X0 e0 hS0 hk0 CV0 hh0 hTK hFK
  have hEL := hEL_ (a0 := a0) hw
  have hwS := hwS_ hw
  have N0 := Fr.nil n0
  have KP0 := Keep.refl h0 []
  have hSt_ := hSt
  obtain ⟨S_cs, n_cs, S_fm, r_fm, S_us, r_us, S_ss, r_ss⟩ := hSt_
  have hlp := S_p1.lat
  have hld := S_d1.lat
  show Go p e below _ (s₁.setTop (mkF m 0 #[vR a1, vR p1] []))
  obtain ⟨T_118, h_118, X_118, e_118, E_118, A_118, D_118, Un_118, st_118⟩ := newO X0 hx hZ hown (wd_108 hw) (wd_38 hw) (wd_39 hw) e0 (g := (mkF m 0 #[vR a1, vR p1] [])) rfl (hb hby d_prog_3_method_2_code_0) (by decide) (by decide)
  obtain ⟨b118, q_118⟩ : ∃ z, z = h0.size := ⟨_, rfl⟩
  rw [← q_118] at A_118 D_118 Un_118 st_118
  refine Go.step st_118 ?_
  have C_118 := CHr.ext E_118 CV0
  have CR_118 := CHr.trans (CHr.refl CV0) C_118
  have le_118 : h0.size ≤ h_118.size := E_118.1
  have KP_118 := KP0.ext E_118
  have O_118 := hO.ext E_118
  have ge_118 : h0.size ≤ b118 := Nat.le_of_eq q_118.symm
  have sz_b118 : h0.size ≤ b118 := Nat.le_trans (Nat.le_refl _) ge_118
  have g_b118 : n0 ≤ b118 := Nat.le_trans Z0 sz_b118
  have F_118_68 : Fld Z h_118 b118 "java/lang/Throwable" "cause" "Ljava/lang/Throwable;" .null := D_118 (Or.inl (wd_68 hw)) (ty := (.object "java/lang/Throwable")) pf_0
  have F_118_71 : Fld Z h_118 b118 "java/lang/Throwable" "stackTrace" "[Ljava/lang/StackTraceElement;" .null := D_118 (Or.inl (wd_71 hw)) (ty := (.array (.object "java/lang/StackTraceElement"))) pf_1
  have F_118_74 : Fld Z h_118 b118 "java/lang/Throwable" "suppressedExceptions" "Ljava/util/List;" .null := D_118 (Or.inl (wd_74 hw)) (ty := (.object "java/util/List")) pf_2
  have F_118_98 : Fld Z h_118 b118 "java/lang/Throwable" "detailMessage" "Ljava/lang/String;" .null := D_118 (Or.inl (wd_98 hw)) (ty := (.object "java/lang/String")) pf_4
  have F_118_99 : Fld Z h_118 b118 "java/lang/Throwable" "backtrace" "Ljava/lang/Object;" .null := D_118 (Or.inl (wd_99 hw)) (ty := (.object "java/lang/Object")) pf_3
  have F_118_100 : Fld Z h_118 b118 "java/lang/Throwable" "depth" "I" (.int (0 : Int32)) := D_118 (Or.inl (wd_100 hw)) (ty := .int) pf_7
  have Sf_b118 := Safe.ext E_118 CV0 (Safe.new ge_118)
  show Go p e below _ (T_118.setTop (mkF m 3 #[vR a1, vR p1] [(.ref b118)]))
  refine Go.step (fun _ k => XS.dup X_118.here hx rfl (hb hby d_prog_3_method_2_code_3) rfl rfl k) ?_
  show Go p e below _ (T_118.setTop (mkF m 4 #[vR a1, vR p1] [(.ref b118), (.ref b118)]))
  obtain ⟨T_119, h_119, X_119, e_119, E_119, A_119, D_119, Un_119, st_119⟩ := newO X_118 hx hZ hown (wd_109 hw) (wd_110 hw) (wd_111 hw) e_118 (g := (mkF m 4 #[vR a1, vR p1] [(.ref b118), (.ref b118)])) rfl (hb hby d_prog_3_method_2_code_4) (by decide) (by decide)
  obtain ⟨b119, q_119⟩ : ∃ z, z = h_118.size := ⟨_, rfl⟩
  rw [← q_119] at A_119 D_119 Un_119 st_119
  refine Go.step st_119 ?_
  have C_119 := CHr.ext E_119 C_118.1
  have CR_119 := CHr.trans CR_118 C_119
  have le_119 : h_118.size ≤ h_119.size := E_119.1
  have KP_119 := KP_118.ext E_119
  have O_119 := O_118.ext E_119
  have ge_119 : h_118.size ≤ b119 := Nat.le_of_eq q_119.symm
  have sz_b119 : h0.size ≤ b119 := Nat.le_trans le_118 ge_119
  have g_b119 : n0 ≤ b119 := Nat.le_trans Z0 sz_b119
  have F_119_124 : Fld Z h_119 b119 "java/lang/AbstractStringBuilder" "value" "[B" .null := D_119 (Or.inl (wd_124 hw)) (ty := (.array .byte)) pf_5
  have F_119_126 : Fld Z h_119 b119 "java/lang/AbstractStringBuilder" "coder" "B" (.int (0 : Int32)) := D_119 (Or.inl (wd_126 hw)) (ty := .byte) pf_6
  have F_119_148 : Fld Z h_119 b119 "java/lang/AbstractStringBuilder" "count" "I" (.int (0 : Int32)) := D_119 (Or.inl (wd_148 hw)) (ty := .int) pf_7
  have Sf_b119 := Safe.ext E_119 C_118.1 (Safe.new ge_119)
  show Go p e below _ (T_119.setTop (mkF m 7 #[vR a1, vR p1] [(.ref b119), (.ref b118), (.ref b118)]))
  refine Go.step (fun _ k => XS.dup X_119.here hx rfl (hb hby d_prog_3_method_2_code_7) rfl rfl k) ?_
  show Go p e below _ (T_119.setTop (mkF m 8 #[vR a1, vR p1] [(.ref b119), (.ref b119), (.ref b118), (.ref b118)]))
  obtain ⟨v_120, T_120, L_120, X_120, hQ_120, st_120⟩ := goC X_119 hx hZ (y := Y_22) hown rfl (wd_112 hw) (wd_113 hw) (wd_114 hw) (by decide) (backOf (W := 3) (rm_sbi l Z a0 hw zc vfm vus vss (b119) h_119 n0 (Nat.le_trans Z0 KP_119.1) A_119 F_119_124 F_119_126 F_119_148 g_b119 hSt O_119) hZ (wd_114 hw) (wd_111 hw) (by decide) (by decide)) e_119 (g := (mkF m 8 #[vR a1, vR p1] [(.ref b119), (.ref b119), (.ref b118), (.ref b118)])) rfl (by rw [hml]; rfl) (a := b119) (argsL := []) (rest := [(.ref b119), (.ref b118), (.ref b118)]) rfl (lenOf pd_14 rfl) rfl (by show 2 * 0 + _ ≤ _; exact Nat.le_of_eq rfl) (hb hby d_prog_3_method_2_code_8) (by decide) (by decide)
  obtain ⟨t_120, kt_120, rfl, Nq_120, K_120, u0_120, u1_120, u2_120, u3_120, u4_120, u5_120⟩ := hQ_120
  have N_120 := Fr.app N0 Nq_120
  have C_120 := CHr.keep K_120 (sfS (Safe.exa hZ.alike A_119 (by decide) (by decide)) sf0) C_119.1
  have CR_120 := CHr.trans CR_119 C_120
  have le_120 : h_119.size ≤ T_120.heap.size := K_120.1
  have KP_120 := KP_119.trans K_120 (allS (Or.inr sz_b119) all0)
  have O_120 := O_119.keep K_120 (allS g_b119 all0)
  have sz_t_120 : h0.size ≤ t_120 := Nat.le_trans (Nat.le_trans le_118 le_119) u1_120
  have g_t_120 : n0 ≤ t_120 := Nat.le_trans Z0 sz_t_120
  have Sf_t_120 := Safe.keep K_120 (sfS (Safe.exa hZ.alike A_119 (by decide) (by decide)) sf0) C_119.1 (Safe.new u1_120)
  refine Go.step st_120 ?_
  show Go p e below _ (T_120.setTop (mkF m 11 #[vR a1, vR p1] [(.ref b119), (.ref b118), (.ref b118)]))
  refine Go.step (fun _ k => XS.aloadN X_120.here hx rfl (hb hby d_prog_3_method_2_code_11) rfl rfl k) ?_
  show Go p e below _ (T_120.setTop (mkF m 12 #[vR a1, vR p1] [(.ref p1), (.ref b119), (.ref b118), (.ref b118)]))
  have hp0 : (List.replicate 16 (0 : Int32)).take ([] : List Int32).length = ([] : List Int32).map (fun c => c.toInt8.toInt32) := rfl
  have hbl0 : (List.replicate 16 (0 : Int32)).length = 16 := by decide
  have Fk121 : Fld Z T_120.heap b119 "java/lang/AbstractStringBuilder" "count" "I" (.int (Int32.ofNat ([] : List Int32).length)) := u4_120
  have f122 : Exa Z T_120.heap b119 "java/lang/StringBuilder" := (A_119.keep K_120)
  have f123 : Str Z h0.size T_120.heap p1 ps := (((S_p1.ext E_118).ext E_119).keep K_120 (allS (Nat.le_trans le_118 ge_119) all0))
  obtain ⟨v_124, T_124, L_124, X_124, hQ_124, st_124⟩ := goV X_120 hx hZ (y := Y_23) (z := Y_23) hown (wd_127 hw) (wd_128 hw) (notFace_of_selects (args := #[]) (mvT hZ (wd_130 hw))) (wd_130 hw) (wd_129 hw) (by decide) (backOf (W := 2) (rm_sbaN l Z a0 hw zc vfm vus vss (b119) (t_120) (kt_120) ((List.replicate 16 (0 : Int32))) (([] : List Int32)) (p1) (ps) T_120.heap n0 (Nat.le_trans Z0 KP_120.1) f122 u0_120 u3_120 Fk121 u5_120 g_b119 g_t_120 (f123.mono (Nat.le_trans le_118 (Nat.le_trans le_119 le_120))) hbl0 (by simp only [List.length_append, List.length_cons, List.length_nil]; omega) hSt O_120) hZ (wd_131 hw) (wd_111 hw) (by decide) (by decide)) rfl f122 (g := (mkF m 12 #[vR a1, vR p1] [(.ref p1), (.ref b119), (.ref b118), (.ref b118)])) rfl (by rw [hml]; rfl) (argsL := [(.ref p1)]) (rest := [(.ref b118), (.ref b118)]) rfl (lenOf pd_15 rfl) rfl (by show 2 * 0 + _ ≤ _; exact Nat.le_of_eq rfl) (hb hby d_prog_3_method_2_code_12) (by decide) (by decide)
  obtain ⟨rfl, Nq_124, K_124, u0_124, u1_124, u2_124, u3_124⟩ := hQ_124
  have N_124 := Fr.app N_120 Nq_124
  have C_124 := CHr.keep K_124 (sfS (Safe.exa hZ.alike f122 (by decide) (by decide)) (sfS Sf_t_120 sf0)) C_120.1
  have CR_124 := CHr.trans CR_120 C_124
  have le_124 : T_120.heap.size ≤ T_124.heap.size := K_124.1
  have KP_124 := KP_120.trans K_124 (allS (Or.inr sz_b119) (allS (Or.inr sz_t_120) all0))
  have O_124 := O_120.keep K_124 (allS g_b119 (allS g_t_120 all0))
  refine Go.step st_124 ?_
  show Go p e below _ (T_124.setTop (mkF m 15 #[vR a1, vR p1] [(.ref b119), (.ref b118), (.ref b118)]))
  have Fk125 : Fld Z T_124.heap b119 "java/lang/AbstractStringBuilder" "count" "I" (.int (Int32.ofNat ps.length)) := u2_124
  have hN1 : ([] : List Int32).length + ps.length ≤ ((List.replicate 16 (0 : Int32))).length := by rw [hbl0]; simp only [List.length_append, List.length_cons, List.length_nil]; omega
  have hbl1 : (insB (List.replicate 16 (0 : Int32)) ([] : List Int32) ps).length = 16 := (insB_len hN1).trans hbl0
  have hp1 := insB_take hN1 hp0
  have hp1 : (insB (List.replicate 16 (0 : Int32)) ([] : List Int32) ps).take ps.length = ps.map (fun c => c.toInt8.toInt32) := hp1
  show Go p e below _ (T_124.setTop (mkF m 15 #[vR a1, vR p1] [(.ref b119), (.ref b118), (.ref b118)]))
  obtain ⟨a_126, T_126, h_126, k1_126, t_126, kb_126, X_126, e_126, E_126, hS_126, hk_126, hZ_126, hown_126, Ex_126, Fc_126, Fv_126, Av_126, lta_126, ltb_126, C_126, Lt_126, -, st_126⟩ := ldcCH X_124 hx hZ hown (wd_174 hw) hwS rfl hS0 (Nat.le_trans hk0 (Nat.le_trans le_118 (Nat.le_trans le_119 (Nat.le_trans le_120 le_124)))) hEL (by decide) C_124.1 (vs := [(.int (46 : Int32))]) (z := (1 : Int32)) ⟨by decide, by decide⟩ (by decide) (by decide) (g := (mkF m 15 #[vR a1, vR p1] [(.ref b119), (.ref b118), (.ref b118)])) rfl (hb hby d_prog_3_method_2_code_15) (n := 4) (by decide) (by decide) (by decide) (by decide)
  refine Go.step st_126 ?_
  have CR_126 := CHr.trans CR_124 C_126
  have le_126 : T_124.heap.size ≤ h_126.size := E_126.1
  have KP_126 := KP_124.ext E_126
  have O_126 := O_124.ext E_126
  have Sx_126 : Str Z h_126.size h_126 a_126 ([(46 : Int32)] : List Int32) := ⟨t_126, kb_126, lta_126, ltb_126, Ex_126, Fv_126, Fc_126, Av_126, by decide, by decide⟩
  show Go p e below _ (T_126.setTop (mkF m 17 #[vR a1, vR p1] [(.ref a_126), (.ref b119), (.ref b118), (.ref b118)]))
  have f127 : Exa Z h_126 b119 "java/lang/StringBuilder" := ((f122.keep K_124).ext E_126)
  have f128 : Fld Z h_126 b119 "java/lang/AbstractStringBuilder" "value" "[B" (.ref t_120) := (u0_124.ext E_126)
  have f129 : Fld Z h_126 b119 "java/lang/AbstractStringBuilder" "coder" "B" (.int (0 : Int32)) := (u1_124.ext E_126)
  have f130 : Fld Z h_126 b119 "java/lang/AbstractStringBuilder" "count" "I" (.int (Int32.ofNat ps.length)) := (Fk125.ext E_126)
  have f131 : Arv Z h_126 t_120 kt_120 .byte (16 : Int32) ((insB (List.replicate 16 (0 : Int32)) ([] : List Int32) ps).map Value.int) (.int (0 : Int32)) := (u3_124.ext E_126)
  obtain ⟨v_132, T_132, L_132, X_132, hQ_132, st_132⟩ := goV X_126 hx hZ_126 (y := Y_23) (z := Y_23) hown_126 (wd_127 hw) (wd_128 hw) (notFace_of_selects (args := #[]) (mvT hZ_126 (wd_130 hw))) (wd_130 hw) (wd_129 hw) (by decide) (backOf (W := 2) (rm_sbaN l Z a0 hw zc vfm vus vss (b119) (t_120) (kt_120) ((insB (List.replicate 16 (0 : Int32)) ([] : List Int32) ps)) (ps) (a_126) (([(46 : Int32)] : List Int32)) h_126 n0 (Nat.le_trans Z0 KP_126.1) f127 f128 f129 f130 f131 g_b119 g_t_120 Sx_126 hbl1 (by simp only [List.length_append, List.length_cons, List.length_nil]; omega) hSt O_126) hZ_126 (wd_131 hw) (wd_111 hw) (by decide) (by decide)) e_126 f127 (g := (mkF m 17 #[vR a1, vR p1] [(.ref a_126), (.ref b119), (.ref b118), (.ref b118)])) rfl (by rw [hml]; rfl) (argsL := [(.ref a_126)]) (rest := [(.ref b118), (.ref b118)]) rfl (lenOf pd_15 rfl) rfl (by show 2 * 0 + _ ≤ _; exact Nat.le_of_eq rfl) (hb hby d_prog_3_method_2_code_17) (by decide) (by decide)
  obtain ⟨rfl, Nq_132, K_132, u0_132, u1_132, u2_132, u3_132⟩ := hQ_132
  have N_132 := Fr.app N_124 Nq_132
  have C_132 := CHr.keep K_132 (sfS (Safe.exa hZ_126.alike f127 (by decide) (by decide)) (sfS (CHr.safe (CHr.trans C_124 C_126) u2_120.lt Sf_t_120) sf0)) C_126.1
  have CR_132 := CHr.trans CR_126 C_132
  have le_132 : h_126.size ≤ T_132.heap.size := K_132.1
  have KP_132 := KP_126.trans K_132 (allS (Or.inr sz_b119) (allS (Or.inr sz_t_120) all0))
  have O_132 := O_126.keep K_132 (allS g_b119 (allS g_t_120 all0))
  refine Go.step st_132 ?_
  show Go p e below _ (T_132.setTop (mkF m 20 #[vR a1, vR p1] [(.ref b119), (.ref b118), (.ref b118)]))
  have hN2 : ps.length + ([(46 : Int32)] : List Int32).length ≤ ((insB (List.replicate 16 (0 : Int32)) ([] : List Int32) ps)).length := by rw [hbl1]; simp only [List.length_append, List.length_cons, List.length_nil]; omega
  have hbl2 : (insB (insB (List.replicate 16 (0 : Int32)) ([] : List Int32) ps) ps ([(46 : Int32)] : List Int32)).length = 16 := (insB_len hN2).trans hbl1
  have hp2 := insB_take hN2 hp1
  show Go p e below _ (T_132.setTop (mkF m 20 #[vR a1, vR p1] [(.ref b119), (.ref b118), (.ref b118)]))
  refine Go.step (fun _ k => XS.aloadN X_132.here hx rfl (hb hby d_prog_3_method_2_code_20) rfl rfl k) ?_
  show Go p e below _ (T_132.setTop (mkF m 21 #[vR a1, vR p1] [(.ref a1), (.ref b119), (.ref b118), (.ref b118)]))
  have f133 : Fld Z T_132.heap a1 "java/lang/Throwable" "detailMessage" "Ljava/lang/String;" (.ref d1) := ((((((F_a1.ext E_118).ext E_119).keep K_120 (ninS (Nat.ne_of_lt (Nat.lt_of_lt_of_le E_a1.lt (Nat.le_trans le_118 ge_119))) nin0)).keep K_124 (ninS (Nat.ne_of_lt (Nat.lt_of_lt_of_le E_a1.lt (Nat.le_trans le_118 ge_119))) (ninS (Nat.ne_of_lt (Nat.lt_of_lt_of_le E_a1.lt (Nat.le_trans (Nat.le_trans le_118 le_119) u1_120))) nin0))).ext E_126).keep K_132 (ninS (Nat.ne_of_lt (Nat.lt_of_lt_of_le E_a1.lt (Nat.le_trans le_118 ge_119))) (ninS (Nat.ne_of_lt (Nat.lt_of_lt_of_le E_a1.lt (Nat.le_trans (Nat.le_trans le_118 le_119) u1_120))) nin0)))
  have f135 : Exa Z T_132.heap a1 "com/example/hallstatt/hallstatt/InvalidValueException" := ((((((E_a1.ext E_118).ext E_119).keep K_120).keep K_124).ext E_126).keep K_132)
  obtain ⟨v_134, T_134, L_134, X_134, hQ_134, st_134⟩ := goU X_132 hx hZ_126 (y := Y_24) (z := Y_25) hown_126 (wd_175 hw) (wd_176 hw) (wd_177 hw) (wd_179 hw) (wd_178 hw) (by decide) (backOf (W := 3) (rm_gm l Z a0 hw zc vfm vus vss (a1) (d1) T_132.heap n0 (Nat.le_trans Z0 KP_132.1) f133 hSt O_132) hZ_126 (wd_180 hw) (wd_64 hw) (by decide) (by decide)) rfl f135 (g := (mkF m 21 #[vR a1, vR p1] [(.ref a1), (.ref b119), (.ref b118), (.ref b118)])) rfl (by rw [hml]; rfl) (argsL := []) (rest := [(.ref b119), (.ref b118), (.ref b118)]) rfl (lenOf pd_16 rfl) rfl (by show 2 * 0 + _ ≤ _; exact Nat.le_of_eq rfl) (hb hby d_prog_3_method_2_code_21) (by decide) (by decide)
  obtain ⟨rfl, Nq_134, e_134⟩ := hQ_134
  have N_134 := Fr.app N_132 Nq_134
  refine Go.step st_134 ?_
  show Go p e below _ (T_134.setTop (mkF m 24 #[vR a1, vR p1] [(.ref d1), (.ref b119), (.ref b118), (.ref b118)]))
  have f136 : Exa Z T_132.heap b119 "java/lang/StringBuilder" := (f127.keep K_132)
  have f137 : Str Z h0.size T_132.heap d1 ds := ((((((S_d1.ext E_118).ext E_119).keep K_120 (allS (Nat.le_trans le_118 ge_119) all0)).keep K_124 (allS (Nat.le_trans le_118 ge_119) (allS (Nat.le_trans (Nat.le_trans le_118 le_119) u1_120) all0))).ext E_126).keep K_132 (allS (Nat.le_trans le_118 ge_119) (allS (Nat.le_trans (Nat.le_trans le_118 le_119) u1_120) all0)))
  obtain ⟨v_138, T_138, L_138, X_138, hQ_138, st_138⟩ := goV X_134 hx hZ_126 (y := Y_23) (z := Y_23) hown_126 (wd_127 hw) (wd_128 hw) (notFace_of_selects (args := #[]) (mvT hZ_126 (wd_130 hw))) (wd_130 hw) (wd_129 hw) (by decide) (backOf (W := 2) (rm_sbaN l Z a0 hw zc vfm vus vss (b119) (t_120) (kt_120) ((insB (insB (List.replicate 16 (0 : Int32)) ([] : List Int32) ps) ps ([(46 : Int32)] : List Int32))) ((ps ++ ([(46 : Int32)] : List Int32))) (d1) (ds) T_132.heap n0 (Nat.le_trans Z0 KP_132.1) f136 u0_132 u1_132 u2_132 u3_132 g_b119 g_t_120 (f137.mono (Nat.le_trans le_118 (Nat.le_trans le_119 (Nat.le_trans le_120 (Nat.le_trans le_124 (Nat.le_trans le_126 le_132)))))) hbl2 (by simp only [List.length_append, List.length_cons, List.length_nil]; omega) hSt O_132) hZ_126 (wd_131 hw) (wd_111 hw) (by decide) (by decide)) e_134 f136 (g := (mkF m 24 #[vR a1, vR p1] [(.ref d1), (.ref b119), (.ref b118), (.ref b118)])) rfl (by rw [hml]; rfl) (argsL := [(.ref d1)]) (rest := [(.ref b118), (.ref b118)]) rfl (lenOf pd_15 rfl) rfl (by show 2 * 0 + _ ≤ _; exact Nat.le_of_eq rfl) (hb hby d_prog_3_method_2_code_24) (by decide) (by decide)
  obtain ⟨rfl, Nq_138, K_138, u0_138, u1_138, u2_138, u3_138⟩ := hQ_138
  have N_138 := Fr.app N_134 Nq_138
  have C_138 := CHr.keep K_138 (sfS (Safe.exa hZ_126.alike f136 (by decide) (by decide)) (sfS (CHr.safe (CHr.trans (CHr.trans C_124 C_126) C_132) u2_120.lt Sf_t_120) sf0)) C_132.1
  have CR_138 := CHr.trans CR_132 C_138
  have le_138 : T_132.heap.size ≤ T_138.heap.size := K_138.1
  have KP_138 := KP_132.trans K_138 (allS (Or.inr sz_b119) (allS (Or.inr sz_t_120) all0))
  have O_138 := O_132.keep K_138 (allS g_b119 (allS g_t_120 all0))
  refine Go.step st_138 ?_
  show Go p e below _ (T_138.setTop (mkF m 27 #[vR a1, vR p1] [(.ref b119), (.ref b118), (.ref b118)]))
  have hN3 : (ps ++ ([(46 : Int32)] : List Int32)).length + ds.length ≤ ((insB (insB (List.replicate 16 (0 : Int32)) ([] : List Int32) ps) ps ([(46 : Int32)] : List Int32))).length := by rw [hbl2]; simp only [List.length_append, List.length_cons, List.length_nil]; omega
  have hbl3 : (insB (insB (insB (List.replicate 16 (0 : Int32)) ([] : List Int32) ps) ps ([(46 : Int32)] : List Int32)) (ps ++ ([(46 : Int32)] : List Int32)) ds).length = 16 := (insB_len hN3).trans hbl2
  have hp3 := insB_take hN3 hp2
  show Go p e below _ (T_138.setTop (mkF m 27 #[vR a1, vR p1] [(.ref b119), (.ref b118), (.ref b118)]))
  have f139 : Exa Z T_138.heap b119 "java/lang/StringBuilder" := (f136.keep K_138)
  obtain ⟨v_140, T_140, L_140, X_140, hQ_140, st_140⟩ := goV X_138 hx hZ_126 (y := Y_26) (z := Y_26) hown_126 (wd_181 hw) (wd_182 hw) (notFace_of_selects (args := #[]) (mvT hZ_126 (wd_184 hw))) (wd_184 hw) (wd_183 hw) (by decide) (backOf (W := 2) (rm_tsN l Z a0 hw zc vfm vus vss (b119) (t_120) (kt_120) ((16 : Int32)) ((insB (insB (insB (List.replicate 16 (0 : Int32)) ([] : List Int32) ps) ps ([(46 : Int32)] : List Int32)) (ps ++ ([(46 : Int32)] : List Int32)) ds)) (((ps ++ ([(46 : Int32)] : List Int32)) ++ ds)) T_138.heap n0 (Nat.le_trans Z0 KP_138.1) f139 u0_138 u1_138 u2_138 u3_138 (by rw [hbl3]; rfl) ⟨by rw [hbl3]; decide, by rw [hbl3]; simp only [List.length_append, List.length_cons, List.length_nil]; omega, by simp only [List.length_append, List.length_cons, List.length_nil]; omega⟩ hp3 (lat_app (lat_app hlp (by decide)) hld) hSt O_138) hZ_126 (wd_185 hw) (wd_111 hw) (by decide) (by decide)) rfl f139 (g := (mkF m 27 #[vR a1, vR p1] [(.ref b119), (.ref b118), (.ref b118)])) rfl (by rw [hml]; rfl) (argsL := []) (rest := [(.ref b118), (.ref b118)]) rfl (lenOf pd_16 rfl) rfl (by show 2 * 0 + _ ≤ _; exact Nat.le_of_eq rfl) (hb hby d_prog_3_method_2_code_27) (by decide) (by decide)
  obtain ⟨r_140, rfl, Nq_140, K_140, u0_140, u1_140⟩ := hQ_140
  have N_140 := Fr.app N_138 Nq_140
  have C_140 := CHr.keep K_140 sf0 C_138.1
  have CR_140 := CHr.trans CR_138 C_140
  have le_140 : T_138.heap.size ≤ T_140.heap.size := K_140.1
  have KP_140 := KP_138.trans K_140 all0
  have O_140 := O_138.keep K_140 all0
  have sz_r_140 : h0.size ≤ r_140 := Nat.le_trans (Nat.le_trans le_118 (Nat.le_trans le_119 (Nat.le_trans le_120 (Nat.le_trans le_124 (Nat.le_trans le_126 (Nat.le_trans le_132 le_138)))))) u0_140
  have g_r_140 : n0 ≤ r_140 := Nat.le_trans Z0 sz_r_140
  have Sf_r_140 := Safe.keep K_140 sf0 C_138.1 (Safe.new u0_140)
  refine Go.step st_140 ?_
  show Go p e below _ (T_140.setTop (mkF m 30 #[vR a1, vR p1] [(.ref r_140), (.ref b118), (.ref b118)]))
  have f141 : Exa Z T_140.heap b118 "com/example/hallstatt/hallstatt/InvalidValueException" := (((((((A_118.ext E_119).keep K_120).keep K_124).ext E_126).keep K_132).keep K_138).keep K_140)
  have f142 : Unt T_140.heap b118 := (Unt.keep K_140 nin0 (Unt.keep K_138 (ninS (Nat.ne_of_lt (Nat.lt_of_lt_of_le A_118.lt (Nat.le_trans (Nat.le_refl _) ge_119))) (ninS (Nat.ne_of_lt (Nat.lt_of_lt_of_le A_118.lt (Nat.le_trans le_119 u1_120))) nin0)) (Unt.keep K_132 (ninS (Nat.ne_of_lt (Nat.lt_of_lt_of_le A_118.lt (Nat.le_trans (Nat.le_refl _) ge_119))) (ninS (Nat.ne_of_lt (Nat.lt_of_lt_of_le A_118.lt (Nat.le_trans le_119 u1_120))) nin0)) (Unt.ext E_126 (Unt.keep K_124 (ninS (Nat.ne_of_lt (Nat.lt_of_lt_of_le A_118.lt (Nat.le_trans (Nat.le_refl _) ge_119))) (ninS (Nat.ne_of_lt (Nat.lt_of_lt_of_le A_118.lt (Nat.le_trans le_119 u1_120))) nin0)) (Unt.keep K_120 (ninS (Nat.ne_of_lt (Nat.lt_of_lt_of_le A_118.lt (Nat.le_trans (Nat.le_refl _) ge_119))) nin0) (Unt.ext E_119 Un_118)))))))
  have f143 : Fld Z T_140.heap b118 "java/lang/Throwable" "cause" "Ljava/lang/Throwable;" .null := (((((((F_118_68.ext E_119).keep K_120 (ninS (Nat.ne_of_lt (Nat.lt_of_lt_of_le A_118.lt (Nat.le_trans (Nat.le_refl _) ge_119))) nin0)).keep K_124 (ninS (Nat.ne_of_lt (Nat.lt_of_lt_of_le A_118.lt (Nat.le_trans (Nat.le_refl _) ge_119))) (ninS (Nat.ne_of_lt (Nat.lt_of_lt_of_le A_118.lt (Nat.le_trans le_119 u1_120))) nin0))).ext E_126).keep K_132 (ninS (Nat.ne_of_lt (Nat.lt_of_lt_of_le A_118.lt (Nat.le_trans (Nat.le_refl _) ge_119))) (ninS (Nat.ne_of_lt (Nat.lt_of_lt_of_le A_118.lt (Nat.le_trans le_119 u1_120))) nin0))).keep K_138 (ninS (Nat.ne_of_lt (Nat.lt_of_lt_of_le A_118.lt (Nat.le_trans (Nat.le_refl _) ge_119))) (ninS (Nat.ne_of_lt (Nat.lt_of_lt_of_le A_118.lt (Nat.le_trans le_119 u1_120))) nin0))).keep K_140 nin0)
  have f144 : Fld Z T_140.heap b118 "java/lang/Throwable" "stackTrace" "[Ljava/lang/StackTraceElement;" .null := (((((((F_118_71.ext E_119).keep K_120 (ninS (Nat.ne_of_lt (Nat.lt_of_lt_of_le A_118.lt (Nat.le_trans (Nat.le_refl _) ge_119))) nin0)).keep K_124 (ninS (Nat.ne_of_lt (Nat.lt_of_lt_of_le A_118.lt (Nat.le_trans (Nat.le_refl _) ge_119))) (ninS (Nat.ne_of_lt (Nat.lt_of_lt_of_le A_118.lt (Nat.le_trans le_119 u1_120))) nin0))).ext E_126).keep K_132 (ninS (Nat.ne_of_lt (Nat.lt_of_lt_of_le A_118.lt (Nat.le_trans (Nat.le_refl _) ge_119))) (ninS (Nat.ne_of_lt (Nat.lt_of_lt_of_le A_118.lt (Nat.le_trans le_119 u1_120))) nin0))).keep K_138 (ninS (Nat.ne_of_lt (Nat.lt_of_lt_of_le A_118.lt (Nat.le_trans (Nat.le_refl _) ge_119))) (ninS (Nat.ne_of_lt (Nat.lt_of_lt_of_le A_118.lt (Nat.le_trans le_119 u1_120))) nin0))).keep K_140 nin0)
  have f145 : Fld Z T_140.heap b118 "java/lang/Throwable" "suppressedExceptions" "Ljava/util/List;" .null := (((((((F_118_74.ext E_119).keep K_120 (ninS (Nat.ne_of_lt (Nat.lt_of_lt_of_le A_118.lt (Nat.le_trans (Nat.le_refl _) ge_119))) nin0)).keep K_124 (ninS (Nat.ne_of_lt (Nat.lt_of_lt_of_le A_118.lt (Nat.le_trans (Nat.le_refl _) ge_119))) (ninS (Nat.ne_of_lt (Nat.lt_of_lt_of_le A_118.lt (Nat.le_trans le_119 u1_120))) nin0))).ext E_126).keep K_132 (ninS (Nat.ne_of_lt (Nat.lt_of_lt_of_le A_118.lt (Nat.le_trans (Nat.le_refl _) ge_119))) (ninS (Nat.ne_of_lt (Nat.lt_of_lt_of_le A_118.lt (Nat.le_trans le_119 u1_120))) nin0))).keep K_138 (ninS (Nat.ne_of_lt (Nat.lt_of_lt_of_le A_118.lt (Nat.le_trans (Nat.le_refl _) ge_119))) (ninS (Nat.ne_of_lt (Nat.lt_of_lt_of_le A_118.lt (Nat.le_trans le_119 u1_120))) nin0))).keep K_140 nin0)
  have f146 : Fld Z T_140.heap b118 "java/lang/Throwable" "backtrace" "Ljava/lang/Object;" .null := (((((((F_118_99.ext E_119).keep K_120 (ninS (Nat.ne_of_lt (Nat.lt_of_lt_of_le A_118.lt (Nat.le_trans (Nat.le_refl _) ge_119))) nin0)).keep K_124 (ninS (Nat.ne_of_lt (Nat.lt_of_lt_of_le A_118.lt (Nat.le_trans (Nat.le_refl _) ge_119))) (ninS (Nat.ne_of_lt (Nat.lt_of_lt_of_le A_118.lt (Nat.le_trans le_119 u1_120))) nin0))).ext E_126).keep K_132 (ninS (Nat.ne_of_lt (Nat.lt_of_lt_of_le A_118.lt (Nat.le_trans (Nat.le_refl _) ge_119))) (ninS (Nat.ne_of_lt (Nat.lt_of_lt_of_le A_118.lt (Nat.le_trans le_119 u1_120))) nin0))).keep K_138 (ninS (Nat.ne_of_lt (Nat.lt_of_lt_of_le A_118.lt (Nat.le_trans (Nat.le_refl _) ge_119))) (ninS (Nat.ne_of_lt (Nat.lt_of_lt_of_le A_118.lt (Nat.le_trans le_119 u1_120))) nin0))).keep K_140 nin0)
  have f147 : Fld Z T_140.heap b118 "java/lang/Throwable" "detailMessage" "Ljava/lang/String;" .null := (((((((F_118_98.ext E_119).keep K_120 (ninS (Nat.ne_of_lt (Nat.lt_of_lt_of_le A_118.lt (Nat.le_trans (Nat.le_refl _) ge_119))) nin0)).keep K_124 (ninS (Nat.ne_of_lt (Nat.lt_of_lt_of_le A_118.lt (Nat.le_trans (Nat.le_refl _) ge_119))) (ninS (Nat.ne_of_lt (Nat.lt_of_lt_of_le A_118.lt (Nat.le_trans le_119 u1_120))) nin0))).ext E_126).keep K_132 (ninS (Nat.ne_of_lt (Nat.lt_of_lt_of_le A_118.lt (Nat.le_trans (Nat.le_refl _) ge_119))) (ninS (Nat.ne_of_lt (Nat.lt_of_lt_of_le A_118.lt (Nat.le_trans le_119 u1_120))) nin0))).keep K_138 (ninS (Nat.ne_of_lt (Nat.lt_of_lt_of_le A_118.lt (Nat.le_trans (Nat.le_refl _) ge_119))) (ninS (Nat.ne_of_lt (Nat.lt_of_lt_of_le A_118.lt (Nat.le_trans le_119 u1_120))) nin0))).keep K_140 nin0)
  obtain ⟨v_148, T_148, L_148, X_148, hQ_148, hS_148, hZ_148, hown_148, C_148, st_148⟩ := goCW X_140 hx hZ_126 (y := Y_27) hown_126 hS_126 (Nat.le_trans hk_126 (Nat.le_trans le_132 (Nat.le_trans le_138 le_140))) rfl (wd_226 hw) (wd_41 hw) (wd_42 hw) (by decide) (backOfSKH (W := 1) (rm_ivS l Z a0 hw zc vfm vus vss (b118) (r_140) T_140.heap n0 (Nat.le_trans Z0 KP_140.1) f141 f142 g_b118 hl f143 f144 f145 f146 f147 hSt O_140) hZ_126 (wd_42 hw) (wd_39 hw) (by decide) (by decide) hEL C_140.1 (Vm.MethodsKnown.alikeC hZ_126.alike hTK) (Vm.FramesKnown.alikeC hZ_126.alike hFK)) rfl (g := (mkF m 30 #[vR a1, vR p1] [(.ref r_140), (.ref b118), (.ref b118)])) rfl (by rw [hml]; rfl) (a := b118) (argsL := [(.ref r_140)]) (rest := [(.ref b118)]) rfl (lenOf pd_0 rfl) rfl (by show 2 * 0 + _ ≤ _; exact Nat.le_of_eq rfl) (hb hby d_prog_3_method_2_code_30) (by decide) (by decide)
  obtain ⟨rfl, Nq_148, K_148, u0_148, u1_148⟩ := hQ_148
  have N_148 := Fr.app N_140 Nq_148
  have CR_148 := CHr.trans CR_140 C_148
  have le_148 : T_140.heap.size ≤ T_148.heap.size := K_148.1
  have KP_148 := KP_140.trans K_148 (allS (Or.inr sz_b118) all0)
  have O_148 := O_140.keep K_148 (allS g_b118 all0)
  refine Go.step st_148 ?_
  show Go p e below _ (T_148.setTop (mkF m 33 #[vR a1, vR p1] [(.ref b118)]))
  have f149 : Str Z T_140.heap.size T_148.heap r_140 ((ps ++ ([(46 : Int32)] : List Int32)) ++ ds) := (u1_140.keepE K_148 (allS (Or.inr ⟨_, _, _, (((((((A_118.ext E_119).keep K_120).keep K_124).ext E_126).keep K_132).keep K_138).keep K_140), by decide, (wd_38 hw)⟩) all0))
  exact Go.retVW X_148 rfl hS_148 (Nat.le_refl _) hZ_148 hEL hh0 CR_148 hx hlk hret rfl (Or.inr (Or.inr (Or.inr (Or.inr ⟨rfl, rfl, rfl⟩)))) (hb hby d_prog_3_method_2_code_33) (by decide) (by decide) (by exact ⟨b118, r_140, rfl, N_148, KP_148, u1_148, sz_b118, u0_148, (f149.mono le_148)⟩)
--@E
theorem getD_l {xs ys : List Int32} {i : Nat} (h : i < xs.length) : (xs ++ ys).getD i 0 = xs.getD i 0 := by
  rw [List.getD_eq_getElem?_getD, List.getD_eq_getElem?_getD, List.getElem?_append_left h]
theorem getD_r {xs ys : List Int32} {i : Nat} : (xs ++ ys).getD (xs.length + i) 0 = ys.getD i 0 := by
  rw [List.getD_eq_getElem?_getD, List.getD_eq_getElem?_getD, List.getElem?_append_right (by omega), Nat.add_sub_cancel_left]
theorem at_p {ps ds : List Int32} {k : Nat} (h : k < ps.length) : ((ps ++ [(46 : Int32)]) ++ ds).getD k 0 = ps.getD k 0 := by rw [List.append_assoc, getD_l h]
theorem at_dot {ps ds : List Int32} : ((ps ++ [(46 : Int32)]) ++ ds).getD ps.length 0 = 46 := by rw [List.append_assoc]; exact getD_r (i := 0)
theorem at_d {ps ds : List Int32} {k : Nat} (h : ps.length < k) : ((ps ++ [(46 : Int32)]) ++ ds).getD k 0 = ds.getD (k - ps.length - 1) 0 := by
  have e : k = (ps ++ [(46 : Int32)]).length + (k - ps.length - 1) := by simp only [List.length_append, List.length_cons, List.length_nil]; omega
  conv => lhs; rw [e]
  exact getD_r
theorem res_len (ps ds : List Int32) : ((ps ++ [(46 : Int32)]) ++ ds).length = ps.length + 1 + ds.length := by simp only [List.length_append, List.length_cons, List.length_nil]
theorem sub_k {k n : Nat} (hk : k ≤ 100) (hn : n < k) : Int32.ofNat k - Int32.ofNat n - (1 : Int32) = Int32.ofNat (k - n - 1) := by
  rw [ofn_sub (by omega) (by omega) (by omega)]; exact ofn_sub (k := 1) (by omega) (by omega) (by omega)
--@C at
def Q_at (Z : State) (zc : Int32) (vfm : Value) (vus : Value) (vss : Value) (m1 : Addr) (p1 : Addr) (d1 : Addr) (ps : List Int32) (ds : List Int32) (kk : Nat) (h0 : Heap) (n0 : Nat) (v : Option Value) (h : Heap) (L : List Loc) : Prop := v = some (.int (1 : Int32)) ∧ Fr n0 L ∧ h = h0
set_option maxRecDepth 65536 in
set_option maxHeartbeats 40000000 in
theorem rm_at (l : Launch) (Z : State) (a0 : Array Value) (hw : ∀ d ∈ tables_1, d.before a0 Z = true) (zc : Int32) (vfm : Value) (vus : Value) (vss : Value) (m1 : Addr) (p1 : Addr) (d1 : Addr) (ps : List Int32) (ds : List Int32) (kk : Nat) (h0 : Heap) (n0 : Nat) (Z0 : n0 ≤ h0.size) (S_m1 : Str Z h0.size h0 m1 ((ps ++ ([(46 : Int32)] : List Int32)) ++ ds)) (S_p1 : Str Z h0.size h0 p1 ps) (S_d1 : Str Z h0.size h0 d1 ds) (hk : (kk ≤ 4)) (hpd : (ps.length ≤ 2 ∧ ds.length ≤ 2)) (hSt : St Z zc vfm vus vss) (hO : Old Z n0 h0) :
    CN l Z ({ cls := "com/example/hallstatt/hallstatt/InvalidValueExceptionWithinPinLaw", name := "at", desc := "(Ljava/lang/String;Ljava/lang/String;Ljava/lang/String;I)Z" } : Jvm.MethodName) [(Jvm.Cond.code ({ cls := "com/example/hallstatt/hallstatt/InvalidValueExceptionWithinPinLaw", name := "at", desc := "(Ljava/lang/String;Ljava/lang/String;Ljava/lang/String;I)Z" } : Jvm.MethodName) method_4_code (5 : Nat) (Option.some Jvm.ClassFile.FieldType.boolean))] ({ frames := 4, cells := 0, slots := 0, locals := 53 } : Room) #[(.ref m1), (.ref p1), (.ref d1), (.int (Int32.ofNat kk))] h0 (Q_at Z zc vfm vus vss m1 p1 d1 ps ds kk h0 n0) := by
  refine CN.of (L0 := #[vR m1, vR p1, vR d1, vI (Int32.ofNat kk), vU]) (plainFor_of_name pn_9) (fun m => by first | (simp [entryFrame, mkF, argsToLocals, Value.category]; done) | rfl) ?_
  intro p e s m below meth c s₁ hx hby hml hret hlk hZ hown hnm X0 e0
  have N0 := Fr.nil n0
  have KP0 := Keep.refl h0 []
  have hSt_ := hSt
  obtain ⟨S_cs, n_cs, S_fm, r_fm, S_us, r_us, S_ss, r_ss⟩ := hSt_
  show Go p e below _ (s₁.setTop (mkF m 0 #[vR m1, vR p1, vR d1, vI (Int32.ofNat kk), vU] []))
  refine Go.step (fun _ k => XS.iloadN X0.here hx rfl (hb hby d_method_4_code_0) rfl  k) ?_
  refine Go.step (fun _ k => XS.aloadN X0.here hx rfl (hb hby d_method_4_code_1) rfl rfl k) ?_
  show Go p e below _ (s₁.setTop (mkF m 2 #[vR m1, vR p1, vR d1, vI (Int32.ofNat kk), vU] [(.ref m1), (.int (Int32.ofNat kk))]))
  have cp150 := S_m1
  obtain ⟨t151, kb151, -, -, Ex151, Fv151, Fc151, Av151, hl151, hn151⟩ := cp150
  obtain ⟨v_152, T_152, L_152, X_152, hQ_152, st_152⟩ := goV X0 hx hZ (y := Y_8) (z := Y_8) (kc := 0) (ks := 0) (QQ := fun v h' L => v = some (.int (Int32.ofNat ((ps ++ ([(46 : Int32)] : List Int32)) ++ ds).length)) ∧ L = [] ∧ h' = h0) hown (wd_228 hw) (wd_138 hw) (notFace_of_selects (args := #[]) (mvT hZ (wd_140 hw))) (wd_140 hw) (wd_139 hw) (by decide) (StrChars.Road.lenW (W := 1) hZ (sw_wordsLen hw) (kI := 4) (wd_5 hw) Ex151 Fv151 Fc151 Av151 (StrChars.Road.codOf rfl (fun c hc => (hl151 c hc).2)) (up255 hl151) (S_cs.ext hO.2) n_cs hn151 (by decide) (by decide)) e0 Ex151 (g := (mkF m 2 #[vR m1, vR p1, vR d1, vI (Int32.ofNat kk), vU] [(.ref m1), (.int (Int32.ofNat kk))])) rfl (by rw [hml]; rfl) (argsL := []) (rest := [(.int (Int32.ofNat kk))]) rfl (lenOf pd_4 rfl) rfl (by show 2 * 0 + _ ≤ _; exact Nat.le_of_eq rfl) (hb hby d_method_4_code_2) (by decide) (by decide)
  obtain ⟨rfl, rfl, e_152⟩ := hQ_152
  have N_152 := Fr.app N0 (Fr.nil n0)
  refine Go.step st_152 ?_
  show Go p e below _ (T_152.setTop (mkF m 5 #[vR m1, vR p1, vR d1, vI (Int32.ofNat kk), vU] [(.int (Int32.ofNat ((ps ++ ([(46 : Int32)] : List Int32)) ++ ds).length)), (.int (Int32.ofNat kk))]))
  by_cases u0 : (Int32.ofNat kk) < (Int32.ofNat ((ps ++ ([(46 : Int32)] : List Int32)) ++ ds).length)
  · skip
    refine Go.step (fun _ k => XS.icmpYes X_152.here hx rfl (pc0 := 5) (pc' := 10) rfl (hb hby d_method_4_code_5) rfl (tlt u0).1 (by decide) (by decide) k) ?_
    show Go p e below _ (T_152.setTop (mkF m 10 #[vR m1, vR p1, vR d1, vI (Int32.ofNat kk), vU] []))
    refine Go.step (fun _ k => XS.iloadN X_152.here hx rfl (hb hby d_method_4_code_10) rfl  k) ?_
    refine Go.step (fun _ k => XS.aloadN X_152.here hx rfl (hb hby d_method_4_code_11) rfl rfl k) ?_
    show Go p e below _ (T_152.setTop (mkF m 12 #[vR m1, vR p1, vR d1, vI (Int32.ofNat kk), vU] [(.ref p1), (.int (Int32.ofNat kk))]))
    have cp153 := S_p1
    obtain ⟨t154, kb154, -, -, Ex154, Fv154, Fc154, Av154, hl154, hn154⟩ := cp153
    obtain ⟨v_155, T_155, L_155, X_155, hQ_155, st_155⟩ := goV X_152 hx hZ (y := Y_8) (z := Y_8) (kc := 0) (ks := 0) (QQ := fun v h' L => v = some (.int (Int32.ofNat ps.length)) ∧ L = [] ∧ h' = h0) hown (wd_228 hw) (wd_138 hw) (notFace_of_selects (args := #[]) (mvT hZ (wd_140 hw))) (wd_140 hw) (wd_139 hw) (by decide) (StrChars.Road.lenW (W := 1) hZ (sw_wordsLen hw) (kI := 4) (wd_5 hw) Ex154 Fv154 Fc154 Av154 (StrChars.Road.codOf rfl (fun c hc => (hl154 c hc).2)) (up255 hl154) (S_cs.ext hO.2) n_cs hn154 (by decide) (by decide)) e_152 Ex154 (g := (mkF m 12 #[vR m1, vR p1, vR d1, vI (Int32.ofNat kk), vU] [(.ref p1), (.int (Int32.ofNat kk))])) rfl (by rw [hml]; rfl) (argsL := []) (rest := [(.int (Int32.ofNat kk))]) rfl (lenOf pd_4 rfl) rfl (by show 2 * 0 + _ ≤ _; exact Nat.le_of_eq rfl) (hb hby d_method_4_code_12) (by decide) (by decide)
    obtain ⟨rfl, rfl, e_155⟩ := hQ_155
    have N_155 := Fr.app N_152 (Fr.nil n0)
    refine Go.step st_155 ?_
    show Go p e below _ (T_155.setTop (mkF m 15 #[vR m1, vR p1, vR d1, vI (Int32.ofNat kk), vU] [(.int (Int32.ofNat ps.length)), (.int (Int32.ofNat kk))]))
    by_cases u1 : (Int32.ofNat kk) < (Int32.ofNat ps.length)
    · skip
      refine Go.step (fun _ k => XS.icmpNo X_155.here hx rfl (hb hby d_method_4_code_15) rfl (tlt u1).2.1 k) ?_
      show Go p e below _ (T_155.setTop (mkF m 18 #[vR m1, vR p1, vR d1, vI (Int32.ofNat kk), vU] []))
      refine Go.step (fun _ k => XS.aloadN X_155.here hx rfl (hb hby d_method_4_code_18) rfl rfl k) ?_
      refine Go.step (fun _ k => XS.iloadN X_155.here hx rfl (hb hby d_method_4_code_19) rfl  k) ?_
      show Go p e below _ (T_155.setTop (mkF m 20 #[vR m1, vR p1, vR d1, vI (Int32.ofNat kk), vU] [(.int (Int32.ofNat kk)), (.ref p1)]))
      have cp156 := S_p1
      obtain ⟨t157, kb157, -, -, Ex157, Fv157, Fc157, Av157, hl157, hn157⟩ := cp156
      obtain ⟨v_158, T_158, L_158, X_158, hQ_158, st_158⟩ := goV X_155 hx hZ (y := Y_28) (z := Y_28) (kc := 0) (ks := 0) (QQ := fun v h' L => v = some (.int (ps.getD kk 0)) ∧ L = [] ∧ h' = h0) hown (wd_232 hw) (wd_233 hw) (notFace_of_selects (args := #[]) (mvT hZ (wd_235 hw))) (wd_235 hw) (wd_234 hw) (by decide) (StrChars.Road.chN (W := 0) hZ (sw_wordsChN hw) (kI := 4) (wd_5 hw) (i := kk) (j := (Int32.ofNat kk)) Ex157 Fv157 Fc157 Av157 (StrChars.Road.codOf rfl (fun c hc => (hl157 c hc).2)) (up255 hl157) (S_cs.ext hO.2) n_cs (S_fm.ext hO.2) r_fm hn157 ((ofn_lt (by omega) (by omega)).mp u1) rfl (by decide) (by decide)) e_155 Ex157 (g := (mkF m 20 #[vR m1, vR p1, vR d1, vI (Int32.ofNat kk), vU] [(.int (Int32.ofNat kk)), (.ref p1)])) rfl (by rw [hml]; rfl) (argsL := [(.int (Int32.ofNat kk))]) (rest := []) rfl (lenOf pd_17 rfl) rfl (by show 2 * 0 + _ ≤ _; exact Nat.le_of_eq rfl) (hb hby d_method_4_code_20) (by decide) (by decide)
      obtain ⟨rfl, rfl, e_158⟩ := hQ_158
      have N_158 := Fr.app N_155 (Fr.nil n0)
      refine Go.step st_158 ?_
      show Go p e below _ (T_158.setTop (mkF m 23 #[vR m1, vR p1, vR d1, vI (Int32.ofNat kk), vU] [(.int (ps.getD kk 0))]))
      refine Go.step (fun _ k => XS.istore X_158.here hx rfl (hb hby d_method_4_code_23) rfl (l' := #[vR m1, vR p1, vR d1, vI (Int32.ofNat kk), vI (ps.getD kk 0)]) rfl k) ?_
      show Go p e below _ (T_158.setTop (mkF m 25 #[vR m1, vR p1, vR d1, vI (Int32.ofNat kk), vI (ps.getD kk 0)] []))
      refine Go.step (fun _ k => XS.goto X_158.here hx rfl (pc0 := 25) (pc' := 57) rfl (hb hby d_method_4_code_25) (by decide) (by decide) k) ?_
      show Go p e below _ (T_158.setTop (mkF m 57 #[vR m1, vR p1, vR d1, vI (Int32.ofNat kk), vI (ps.getD kk 0)] []))
      refine Go.step (fun _ k => XS.aloadN X_158.here hx rfl (hb hby d_method_4_code_57) rfl rfl k) ?_
      refine Go.step (fun _ k => XS.iloadN X_158.here hx rfl (hb hby d_method_4_code_58) rfl  k) ?_
      show Go p e below _ (T_158.setTop (mkF m 59 #[vR m1, vR p1, vR d1, vI (Int32.ofNat kk), vI (ps.getD kk 0)] [(.int (Int32.ofNat kk)), (.ref m1)]))
      have cp159 := S_m1
      obtain ⟨t160, kb160, -, -, Ex160, Fv160, Fc160, Av160, hl160, hn160⟩ := cp159
      obtain ⟨v_161, T_161, L_161, X_161, hQ_161, st_161⟩ := goV X_158 hx hZ (y := Y_28) (z := Y_28) (kc := 0) (ks := 0) (QQ := fun v h' L => v = some (.int (((ps ++ ([(46 : Int32)] : List Int32)) ++ ds).getD kk 0)) ∧ L = [] ∧ h' = h0) hown (wd_232 hw) (wd_233 hw) (notFace_of_selects (args := #[]) (mvT hZ (wd_235 hw))) (wd_235 hw) (wd_234 hw) (by decide) (StrChars.Road.chN (W := 0) hZ (sw_wordsChN hw) (kI := 4) (wd_5 hw) (i := kk) (j := (Int32.ofNat kk)) Ex160 Fv160 Fc160 Av160 (StrChars.Road.codOf rfl (fun c hc => (hl160 c hc).2)) (up255 hl160) (S_cs.ext hO.2) n_cs (S_fm.ext hO.2) r_fm hn160 ((ofn_lt (by omega) (by rw [res_len]; omega)).mp u0) rfl (by decide) (by decide)) e_158 Ex160 (g := (mkF m 59 #[vR m1, vR p1, vR d1, vI (Int32.ofNat kk), vI (ps.getD kk 0)] [(.int (Int32.ofNat kk)), (.ref m1)])) rfl (by rw [hml]; rfl) (argsL := [(.int (Int32.ofNat kk))]) (rest := []) rfl (lenOf pd_17 rfl) rfl (by show 2 * 0 + _ ≤ _; exact Nat.le_of_eq rfl) (hb hby d_method_4_code_59) (by decide) (by decide)
      obtain ⟨rfl, rfl, e_161⟩ := hQ_161
      have N_161 := Fr.app N_158 (Fr.nil n0)
      refine Go.step st_161 ?_
      show Go p e below _ (T_161.setTop (mkF m 62 #[vR m1, vR p1, vR d1, vI (Int32.ofNat kk), vI (ps.getD kk 0)] [(.int (((ps ++ ([(46 : Int32)] : List Int32)) ++ ds).getD kk 0))]))
      refine Go.step (fun _ k => XS.iload X_161.here hx rfl (hb hby d_method_4_code_62) rfl  k) ?_
      show Go p e below _ (T_161.setTop (mkF m 64 #[vR m1, vR p1, vR d1, vI (Int32.ofNat kk), vI (ps.getD kk 0)] [(.int (ps.getD kk 0)), (.int (((ps ++ ([(46 : Int32)] : List Int32)) ++ ds).getD kk 0))]))
      refine Go.step (fun _ k => XS.icmpNo X_161.here hx rfl (hb hby d_method_4_code_64) rfl (teq ((at_p ((ofn_lt (by omega) (by omega)).mp u1)) : (((ps ++ ([(46 : Int32)] : List Int32)) ++ ds).getD kk 0) = (ps.getD kk 0))).2 k) ?_
      show Go p e below _ (T_161.setTop (mkF m 67 #[vR m1, vR p1, vR d1, vI (Int32.ofNat kk), vI (ps.getD kk 0)] []))
      refine Go.step (fun _ k => XS.iconst X_161.here hx rfl (hb hby d_method_4_code_67) k) ?_
      show Go p e below _ (T_161.setTop (mkF m 68 #[vR m1, vR p1, vR d1, vI (Int32.ofNat kk), vI (ps.getD kk 0)] [(.int (1 : Int32))]))
      refine Go.step (fun _ k => XS.goto X_161.here hx rfl (pc0 := 68) (pc' := 72) rfl (hb hby d_method_4_code_68) (by decide) (by decide) k) ?_
      show Go p e below _ (T_161.setTop (mkF m 72 #[vR m1, vR p1, vR d1, vI (Int32.ofNat kk), vI (ps.getD kk 0)] [(.int (1 : Int32))]))
      exact Go.retV X_161 hx hlk hret rfl (Or.inl ⟨rfl, Or.inr (Or.inl rfl), _, rfl⟩) (hb hby d_method_4_code_72) (by decide) (by decide) (by rw [e_161]; exact ⟨rfl, N_161, rfl⟩)
    · skip
      refine Go.step (fun _ k => XS.icmpYes X_155.here hx rfl (pc0 := 15) (pc' := 28) rfl (hb hby d_method_4_code_15) rfl (flt u1).2.1 (by decide) (by decide) k) ?_
      show Go p e below _ (T_155.setTop (mkF m 28 #[vR m1, vR p1, vR d1, vI (Int32.ofNat kk), vU] []))
      refine Go.step (fun _ k => XS.iloadN X_155.here hx rfl (hb hby d_method_4_code_28) rfl  k) ?_
      refine Go.step (fun _ k => XS.aloadN X_155.here hx rfl (hb hby d_method_4_code_29) rfl rfl k) ?_
      show Go p e below _ (T_155.setTop (mkF m 30 #[vR m1, vR p1, vR d1, vI (Int32.ofNat kk), vU] [(.ref p1), (.int (Int32.ofNat kk))]))
      have cp162 := S_p1
      obtain ⟨t163, kb163, -, -, Ex163, Fv163, Fc163, Av163, hl163, hn163⟩ := cp162
      obtain ⟨v_164, T_164, L_164, X_164, hQ_164, st_164⟩ := goV X_155 hx hZ (y := Y_8) (z := Y_8) (kc := 0) (ks := 0) (QQ := fun v h' L => v = some (.int (Int32.ofNat ps.length)) ∧ L = [] ∧ h' = h0) hown (wd_228 hw) (wd_138 hw) (notFace_of_selects (args := #[]) (mvT hZ (wd_140 hw))) (wd_140 hw) (wd_139 hw) (by decide) (StrChars.Road.lenW (W := 1) hZ (sw_wordsLen hw) (kI := 4) (wd_5 hw) Ex163 Fv163 Fc163 Av163 (StrChars.Road.codOf rfl (fun c hc => (hl163 c hc).2)) (up255 hl163) (S_cs.ext hO.2) n_cs hn163 (by decide) (by decide)) e_155 Ex163 (g := (mkF m 30 #[vR m1, vR p1, vR d1, vI (Int32.ofNat kk), vU] [(.ref p1), (.int (Int32.ofNat kk))])) rfl (by rw [hml]; rfl) (argsL := []) (rest := [(.int (Int32.ofNat kk))]) rfl (lenOf pd_4 rfl) rfl (by show 2 * 0 + _ ≤ _; exact Nat.le_of_eq rfl) (hb hby d_method_4_code_30) (by decide) (by decide)
      obtain ⟨rfl, rfl, e_164⟩ := hQ_164
      have N_164 := Fr.app N_155 (Fr.nil n0)
      refine Go.step st_164 ?_
      show Go p e below _ (T_164.setTop (mkF m 33 #[vR m1, vR p1, vR d1, vI (Int32.ofNat kk), vU] [(.int (Int32.ofNat ps.length)), (.int (Int32.ofNat kk))]))
      by_cases u2 : (Int32.ofNat kk) = (Int32.ofNat ps.length)
      · skip
        refine Go.step (fun _ k => XS.icmpNo X_164.here hx rfl (hb hby d_method_4_code_33) rfl (teq u2).2 k) ?_
        show Go p e below _ (T_164.setTop (mkF m 36 #[vR m1, vR p1, vR d1, vI (Int32.ofNat kk), vU] []))
        refine Go.step (fun _ k => XS.bipush X_164.here hx rfl (hb hby d_method_4_code_36) k) ?_
        show Go p e below _ (T_164.setTop (mkF m 38 #[vR m1, vR p1, vR d1, vI (Int32.ofNat kk), vU] [(.int (46 : Int32))]))
        refine Go.step (fun _ k => XS.istore X_164.here hx rfl (hb hby d_method_4_code_38) rfl (l' := #[vR m1, vR p1, vR d1, vI (Int32.ofNat kk), vI 46]) rfl k) ?_
        show Go p e below _ (T_164.setTop (mkF m 40 #[vR m1, vR p1, vR d1, vI (Int32.ofNat kk), vI 46] []))
        refine Go.step (fun _ k => XS.goto X_164.here hx rfl (pc0 := 40) (pc' := 57) rfl (hb hby d_method_4_code_40) (by decide) (by decide) k) ?_
        show Go p e below _ (T_164.setTop (mkF m 57 #[vR m1, vR p1, vR d1, vI (Int32.ofNat kk), vI 46] []))
        refine Go.step (fun _ k => XS.aloadN X_164.here hx rfl (hb hby d_method_4_code_57) rfl rfl k) ?_
        refine Go.step (fun _ k => XS.iloadN X_164.here hx rfl (hb hby d_method_4_code_58) rfl  k) ?_
        show Go p e below _ (T_164.setTop (mkF m 59 #[vR m1, vR p1, vR d1, vI (Int32.ofNat kk), vI 46] [(.int (Int32.ofNat kk)), (.ref m1)]))
        have cp165 := S_m1
        obtain ⟨t166, kb166, -, -, Ex166, Fv166, Fc166, Av166, hl166, hn166⟩ := cp165
        obtain ⟨v_167, T_167, L_167, X_167, hQ_167, st_167⟩ := goV X_164 hx hZ (y := Y_28) (z := Y_28) (kc := 0) (ks := 0) (QQ := fun v h' L => v = some (.int (((ps ++ ([(46 : Int32)] : List Int32)) ++ ds).getD kk 0)) ∧ L = [] ∧ h' = h0) hown (wd_232 hw) (wd_233 hw) (notFace_of_selects (args := #[]) (mvT hZ (wd_235 hw))) (wd_235 hw) (wd_234 hw) (by decide) (StrChars.Road.chN (W := 0) hZ (sw_wordsChN hw) (kI := 4) (wd_5 hw) (i := kk) (j := (Int32.ofNat kk)) Ex166 Fv166 Fc166 Av166 (StrChars.Road.codOf rfl (fun c hc => (hl166 c hc).2)) (up255 hl166) (S_cs.ext hO.2) n_cs (S_fm.ext hO.2) r_fm hn166 ((ofn_lt (by omega) (by rw [res_len]; omega)).mp u0) rfl (by decide) (by decide)) e_164 Ex166 (g := (mkF m 59 #[vR m1, vR p1, vR d1, vI (Int32.ofNat kk), vI 46] [(.int (Int32.ofNat kk)), (.ref m1)])) rfl (by rw [hml]; rfl) (argsL := [(.int (Int32.ofNat kk))]) (rest := []) rfl (lenOf pd_17 rfl) rfl (by show 2 * 0 + _ ≤ _; exact Nat.le_of_eq rfl) (hb hby d_method_4_code_59) (by decide) (by decide)
        obtain ⟨rfl, rfl, e_167⟩ := hQ_167
        have N_167 := Fr.app N_164 (Fr.nil n0)
        refine Go.step st_167 ?_
        show Go p e below _ (T_167.setTop (mkF m 62 #[vR m1, vR p1, vR d1, vI (Int32.ofNat kk), vI 46] [(.int (((ps ++ ([(46 : Int32)] : List Int32)) ++ ds).getD kk 0))]))
        refine Go.step (fun _ k => XS.iload X_167.here hx rfl (hb hby d_method_4_code_62) rfl  k) ?_
        show Go p e below _ (T_167.setTop (mkF m 64 #[vR m1, vR p1, vR d1, vI (Int32.ofNat kk), vI 46] [(.int (46 : Int32)), (.int (((ps ++ ([(46 : Int32)] : List Int32)) ++ ds).getD kk 0))]))
        refine Go.step (fun _ k => XS.icmpNo X_167.here hx rfl (hb hby d_method_4_code_64) rfl (teq ((by rw [ofn_inj (by omega) (by omega) u2]; exact at_dot) : (((ps ++ ([(46 : Int32)] : List Int32)) ++ ds).getD kk 0) = (46 : Int32))).2 k) ?_
        show Go p e below _ (T_167.setTop (mkF m 67 #[vR m1, vR p1, vR d1, vI (Int32.ofNat kk), vI 46] []))
        refine Go.step (fun _ k => XS.iconst X_167.here hx rfl (hb hby d_method_4_code_67) k) ?_
        show Go p e below _ (T_167.setTop (mkF m 68 #[vR m1, vR p1, vR d1, vI (Int32.ofNat kk), vI 46] [(.int (1 : Int32))]))
        refine Go.step (fun _ k => XS.goto X_167.here hx rfl (pc0 := 68) (pc' := 72) rfl (hb hby d_method_4_code_68) (by decide) (by decide) k) ?_
        show Go p e below _ (T_167.setTop (mkF m 72 #[vR m1, vR p1, vR d1, vI (Int32.ofNat kk), vI 46] [(.int (1 : Int32))]))
        exact Go.retV X_167 hx hlk hret rfl (Or.inl ⟨rfl, Or.inr (Or.inl rfl), _, rfl⟩) (hb hby d_method_4_code_72) (by decide) (by decide) (by rw [e_167]; exact ⟨rfl, N_167, rfl⟩)
      · skip
        have hlt : ps.length < kk := by
          have a : ¬ kk < ps.length := fun q => u1 ((ofn_lt (by omega) (by omega)).mpr q)
          have b : ¬ kk = ps.length := fun q => u2 (by rw [q])
          omega
        refine Go.step (fun _ k => XS.icmpYes X_164.here hx rfl (pc0 := 33) (pc' := 43) rfl (hb hby d_method_4_code_33) rfl (feq u2).2 (by decide) (by decide) k) ?_
        show Go p e below _ (T_164.setTop (mkF m 43 #[vR m1, vR p1, vR d1, vI (Int32.ofNat kk), vU] []))
        refine Go.step (fun _ k => XS.aloadN X_164.here hx rfl (hb hby d_method_4_code_43) rfl rfl k) ?_
        refine Go.step (fun _ k => XS.iloadN X_164.here hx rfl (hb hby d_method_4_code_44) rfl  k) ?_
        refine Go.step (fun _ k => XS.aloadN X_164.here hx rfl (hb hby d_method_4_code_45) rfl rfl k) ?_
        show Go p e below _ (T_164.setTop (mkF m 46 #[vR m1, vR p1, vR d1, vI (Int32.ofNat kk), vU] [(.ref p1), (.int (Int32.ofNat kk)), (.ref d1)]))
        have cp168 := S_p1
        obtain ⟨t169, kb169, -, -, Ex169, Fv169, Fc169, Av169, hl169, hn169⟩ := cp168
        obtain ⟨v_170, T_170, L_170, X_170, hQ_170, st_170⟩ := goV X_164 hx hZ (y := Y_8) (z := Y_8) (kc := 0) (ks := 0) (QQ := fun v h' L => v = some (.int (Int32.ofNat ps.length)) ∧ L = [] ∧ h' = h0) hown (wd_228 hw) (wd_138 hw) (notFace_of_selects (args := #[]) (mvT hZ (wd_140 hw))) (wd_140 hw) (wd_139 hw) (by decide) (StrChars.Road.lenW (W := 2) hZ (sw_wordsLen hw) (kI := 4) (wd_5 hw) Ex169 Fv169 Fc169 Av169 (StrChars.Road.codOf rfl (fun c hc => (hl169 c hc).2)) (up255 hl169) (S_cs.ext hO.2) n_cs hn169 (by decide) (by decide)) e_164 Ex169 (g := (mkF m 46 #[vR m1, vR p1, vR d1, vI (Int32.ofNat kk), vU] [(.ref p1), (.int (Int32.ofNat kk)), (.ref d1)])) rfl (by rw [hml]; rfl) (argsL := []) (rest := [(.int (Int32.ofNat kk)), (.ref d1)]) rfl (lenOf pd_4 rfl) rfl (by show 2 * 0 + _ ≤ _; exact Nat.le_of_eq rfl) (hb hby d_method_4_code_46) (by decide) (by decide)
        obtain ⟨rfl, rfl, e_170⟩ := hQ_170
        have N_170 := Fr.app N_164 (Fr.nil n0)
        refine Go.step st_170 ?_
        show Go p e below _ (T_170.setTop (mkF m 49 #[vR m1, vR p1, vR d1, vI (Int32.ofNat kk), vU] [(.int (Int32.ofNat ps.length)), (.int (Int32.ofNat kk)), (.ref d1)]))
        refine Go.step (fun _ k => XS.isub X_170.here hx rfl (hb hby d_method_4_code_49) rfl k) ?_
        show Go p e below _ (T_170.setTop (mkF m 50 #[vR m1, vR p1, vR d1, vI (Int32.ofNat kk), vU] [(.int ((Int32.ofNat kk) - (Int32.ofNat ps.length))), (.ref d1)]))
        refine Go.step (fun _ k => XS.iconst X_170.here hx rfl (hb hby d_method_4_code_50) k) ?_
        show Go p e below _ (T_170.setTop (mkF m 51 #[vR m1, vR p1, vR d1, vI (Int32.ofNat kk), vU] [(.int (1 : Int32)), (.int ((Int32.ofNat kk) - (Int32.ofNat ps.length))), (.ref d1)]))
        refine Go.step (fun _ k => XS.isub X_170.here hx rfl (hb hby d_method_4_code_51) rfl k) ?_
        show Go p e below _ (T_170.setTop (mkF m 52 #[vR m1, vR p1, vR d1, vI (Int32.ofNat kk), vU] [(.int (((Int32.ofNat kk) - (Int32.ofNat ps.length)) - (1 : Int32))), (.ref d1)]))
        refine own_top (congrArg Value.int (show (((Int32.ofNat kk) - (Int32.ofNat ps.length)) - (1 : Int32)) = (Int32.ofNat (kk - ps.length - 1)) from sub_k (by omega) hlt)) ?_
        show Go p e below _ (T_170.setTop (mkF m 52 #[vR m1, vR p1, vR d1, vI (Int32.ofNat kk), vU] [(.int (Int32.ofNat (kk - ps.length - 1))), (.ref d1)]))
        have cp171 := S_d1
        obtain ⟨t172, kb172, -, -, Ex172, Fv172, Fc172, Av172, hl172, hn172⟩ := cp171
        obtain ⟨v_173, T_173, L_173, X_173, hQ_173, st_173⟩ := goV X_170 hx hZ (y := Y_28) (z := Y_28) (kc := 0) (ks := 0) (QQ := fun v h' L => v = some (.int (ds.getD (kk - ps.length - 1) 0)) ∧ L = [] ∧ h' = h0) hown (wd_232 hw) (wd_233 hw) (notFace_of_selects (args := #[]) (mvT hZ (wd_235 hw))) (wd_235 hw) (wd_234 hw) (by decide) (StrChars.Road.chN (W := 0) hZ (sw_wordsChN hw) (kI := 4) (wd_5 hw) (i := (kk - ps.length - 1)) (j := (Int32.ofNat (kk - ps.length - 1))) Ex172 Fv172 Fc172 Av172 (StrChars.Road.codOf rfl (fun c hc => (hl172 c hc).2)) (up255 hl172) (S_cs.ext hO.2) n_cs (S_fm.ext hO.2) r_fm hn172 (by have := (ofn_lt (by omega) (by rw [res_len]; omega)).mp u0; rw [res_len] at this; omega) rfl (by decide) (by decide)) e_170 Ex172 (g := (mkF m 52 #[vR m1, vR p1, vR d1, vI (Int32.ofNat kk), vU] [(.int (Int32.ofNat (kk - ps.length - 1))), (.ref d1)])) rfl (by rw [hml]; rfl) (argsL := [(.int (Int32.ofNat (kk - ps.length - 1)))]) (rest := []) rfl (lenOf pd_17 rfl) rfl (by show 2 * 0 + _ ≤ _; exact Nat.le_of_eq rfl) (hb hby d_method_4_code_52) (by decide) (by decide)
        obtain ⟨rfl, rfl, e_173⟩ := hQ_173
        have N_173 := Fr.app N_170 (Fr.nil n0)
        refine Go.step st_173 ?_
        show Go p e below _ (T_173.setTop (mkF m 55 #[vR m1, vR p1, vR d1, vI (Int32.ofNat kk), vU] [(.int (ds.getD (kk - ps.length - 1) 0))]))
        refine Go.step (fun _ k => XS.istore X_173.here hx rfl (hb hby d_method_4_code_55) rfl (l' := #[vR m1, vR p1, vR d1, vI (Int32.ofNat kk), vI (ds.getD (kk - ps.length - 1) 0)]) rfl k) ?_
        show Go p e below _ (T_173.setTop (mkF m 57 #[vR m1, vR p1, vR d1, vI (Int32.ofNat kk), vI (ds.getD (kk - ps.length - 1) 0)] []))
        refine Go.step (fun _ k => XS.aloadN X_173.here hx rfl (hb hby d_method_4_code_57) rfl rfl k) ?_
        refine Go.step (fun _ k => XS.iloadN X_173.here hx rfl (hb hby d_method_4_code_58) rfl  k) ?_
        show Go p e below _ (T_173.setTop (mkF m 59 #[vR m1, vR p1, vR d1, vI (Int32.ofNat kk), vI (ds.getD (kk - ps.length - 1) 0)] [(.int (Int32.ofNat kk)), (.ref m1)]))
        have cp174 := S_m1
        obtain ⟨t175, kb175, -, -, Ex175, Fv175, Fc175, Av175, hl175, hn175⟩ := cp174
        obtain ⟨v_176, T_176, L_176, X_176, hQ_176, st_176⟩ := goV X_173 hx hZ (y := Y_28) (z := Y_28) (kc := 0) (ks := 0) (QQ := fun v h' L => v = some (.int (((ps ++ ([(46 : Int32)] : List Int32)) ++ ds).getD kk 0)) ∧ L = [] ∧ h' = h0) hown (wd_232 hw) (wd_233 hw) (notFace_of_selects (args := #[]) (mvT hZ (wd_235 hw))) (wd_235 hw) (wd_234 hw) (by decide) (StrChars.Road.chN (W := 0) hZ (sw_wordsChN hw) (kI := 4) (wd_5 hw) (i := kk) (j := (Int32.ofNat kk)) Ex175 Fv175 Fc175 Av175 (StrChars.Road.codOf rfl (fun c hc => (hl175 c hc).2)) (up255 hl175) (S_cs.ext hO.2) n_cs (S_fm.ext hO.2) r_fm hn175 ((ofn_lt (by omega) (by rw [res_len]; omega)).mp u0) rfl (by decide) (by decide)) e_173 Ex175 (g := (mkF m 59 #[vR m1, vR p1, vR d1, vI (Int32.ofNat kk), vI (ds.getD (kk - ps.length - 1) 0)] [(.int (Int32.ofNat kk)), (.ref m1)])) rfl (by rw [hml]; rfl) (argsL := [(.int (Int32.ofNat kk))]) (rest := []) rfl (lenOf pd_17 rfl) rfl (by show 2 * 0 + _ ≤ _; exact Nat.le_of_eq rfl) (hb hby d_method_4_code_59) (by decide) (by decide)
        obtain ⟨rfl, rfl, e_176⟩ := hQ_176
        have N_176 := Fr.app N_173 (Fr.nil n0)
        refine Go.step st_176 ?_
        show Go p e below _ (T_176.setTop (mkF m 62 #[vR m1, vR p1, vR d1, vI (Int32.ofNat kk), vI (ds.getD (kk - ps.length - 1) 0)] [(.int (((ps ++ ([(46 : Int32)] : List Int32)) ++ ds).getD kk 0))]))
        refine Go.step (fun _ k => XS.iload X_176.here hx rfl (hb hby d_method_4_code_62) rfl  k) ?_
        show Go p e below _ (T_176.setTop (mkF m 64 #[vR m1, vR p1, vR d1, vI (Int32.ofNat kk), vI (ds.getD (kk - ps.length - 1) 0)] [(.int (ds.getD (kk - ps.length - 1) 0)), (.int (((ps ++ ([(46 : Int32)] : List Int32)) ++ ds).getD kk 0))]))
        refine Go.step (fun _ k => XS.icmpNo X_176.here hx rfl (hb hby d_method_4_code_64) rfl (teq ((at_d hlt) : (((ps ++ ([(46 : Int32)] : List Int32)) ++ ds).getD kk 0) = (ds.getD (kk - ps.length - 1) 0))).2 k) ?_
        show Go p e below _ (T_176.setTop (mkF m 67 #[vR m1, vR p1, vR d1, vI (Int32.ofNat kk), vI (ds.getD (kk - ps.length - 1) 0)] []))
        refine Go.step (fun _ k => XS.iconst X_176.here hx rfl (hb hby d_method_4_code_67) k) ?_
        show Go p e below _ (T_176.setTop (mkF m 68 #[vR m1, vR p1, vR d1, vI (Int32.ofNat kk), vI (ds.getD (kk - ps.length - 1) 0)] [(.int (1 : Int32))]))
        refine Go.step (fun _ k => XS.goto X_176.here hx rfl (pc0 := 68) (pc' := 72) rfl (hb hby d_method_4_code_68) (by decide) (by decide) k) ?_
        show Go p e below _ (T_176.setTop (mkF m 72 #[vR m1, vR p1, vR d1, vI (Int32.ofNat kk), vI (ds.getD (kk - ps.length - 1) 0)] [(.int (1 : Int32))]))
        exact Go.retV X_176 hx hlk hret rfl (Or.inl ⟨rfl, Or.inr (Or.inl rfl), _, rfl⟩) (hb hby d_method_4_code_72) (by decide) (by decide) (by rw [e_176]; exact ⟨rfl, N_176, rfl⟩)
  · skip
    refine Go.step (fun _ k => XS.icmpNo X_152.here hx rfl (hb hby d_method_4_code_5) rfl (flt u0).1 k) ?_
    show Go p e below _ (T_152.setTop (mkF m 8 #[vR m1, vR p1, vR d1, vI (Int32.ofNat kk), vU] []))
    refine Go.step (fun _ k => XS.iconst X_152.here hx rfl (hb hby d_method_4_code_8) k) ?_
    show Go p e below _ (T_152.setTop (mkF m 9 #[vR m1, vR p1, vR d1, vI (Int32.ofNat kk), vU] [(.int (1 : Int32))]))
    exact Go.retV X_152 hx hlk hret rfl (Or.inl ⟨rfl, Or.inr (Or.inl rfl), _, rfl⟩) (hb hby d_method_4_code_9) (by decide) (by decide) (by rw [e_152]; exact ⟨rfl, N_152, rfl⟩)
--@E
--@C init4e
def Q_init4e (Z : State) (zc : Int32) (vfm : Value) (vus : Value) (vss : Value) (a1 : Addr) (a2 : Addr) (h0 : Heap) (n0 : Nat) (v : Option Value) (h : Heap) (L : List Loc) : Prop := v = none ∧ Fr n0 L ∧ Keep h0 h [a1] ∧ Str Z h.size h a1 ([] : List Int32)
set_option maxRecDepth 65536 in
set_option maxHeartbeats 40000000 in
theorem rm_init4e (l : Launch) (Z : State) (a0 : Array Value) (hw : ∀ d ∈ tables_1, d.before a0 Z = true) (zc : Int32) (vfm : Value) (vus : Value) (vss : Value) (a1 : Addr) (a2 : Addr) (h0 : Heap) (n0 : Nat) (Z0 : n0 ≤ h0.size) (E_a1 : Exa Z h0 a1 "java/lang/String") (F_a1v : Fld Z h0 a1 "java/lang/String" "value" "[B" .null) (F_a1c : Fld Z h0 a1 "java/lang/String" "coder" "B" (.int (0 : Int32))) (g_a1 : n0 ≤ a1) (hSt : St Z zc vfm vus vss) (hO : Old Z n0 h0) :
    CW l Z EL ({ cls := "java/lang/String", name := "<init>", desc := "([CIILjava/lang/Void;)V" } : Jvm.MethodName) [(Jvm.Cond.code ({ cls := "java/lang/String", name := "<init>", desc := "([CIILjava/lang/Void;)V" } : Jvm.MethodName) jdk_42_method_149_code (6 : Nat) (Option.none : Option Jvm.ClassFile.FieldType))] ({ frames := 1, cells := 4, slots := 8, locals := 12 } : Room) #[(.ref a1), (.ref a2), (.int (0 : Int32)), (.int (0 : Int32)), .null] h0 (Q_init4e Z zc vfm vus vss a1 a2 h0 n0) := by
  refine CW.of (L0 := #[vR a1, vR a2, vI 0, vI 0, .val .null, vU]) (plainFor_of_name pn_7) (fun m => by first | (simp [entryFrame, mkF, argsToLocals, Value.category]; done) | rfl) ?_
  intro p e s m below meth c s₁ hx hby hml hret hlk hZ hown hnm X0 e0 hS0 hk0 CV0 hh0
  have hEL := hEL_ (a0 := a0) hw
  have hwS := hwS_ hw
  have N0 := Fr.nil n0
  have KP0 := Keep.refl h0 [a1]
  have hSt_ := hSt
  obtain ⟨S_cs, n_cs, S_fm, r_fm, S_us, r_us, S_ss, r_ss⟩ := hSt_
  have Sf_a1 : Safe Z EL s.vm h0 a1 := own_safe_null hZ.alike E_a1 F_a1v (wd_5 hw)
  show Go p e below _ (s₁.setTop (mkF m 0 #[vR a1, vR a2, vI 0, vI 0, .val .null, vU] []))
  refine Go.step (fun _ k => XS.aloadN X0.here hx rfl (hb hby d_jdk_42_method_149_code_0) rfl rfl k) ?_
  show Go p e below _ (s₁.setTop (mkF m 1 #[vR a1, vR a2, vI 0, vI 0, .val .null, vU] [(.ref a1)]))
  obtain ⟨T_177, X_177, e_177, st_177⟩ := initO X0 hx hZ hown (wd_15 hw) (wd_16 hw) (wd_17 hw) e0 (g := (mkF m 1 #[vR a1, vR a2, vI 0, vI 0, .val .null, vU] [(.ref a1)])) rfl (by rw [hml]; rfl) rfl (hb hby d_jdk_42_method_149_code_1) (by decide) (W := 0) (by show 2 * 0 + _ ≤ _; exact Nat.le_of_eq rfl) (by decide)
  refine Go.step st_177 ?_
  show Go p e below _ (T_177.setTop (mkF m 4 #[vR a1, vR a2, vI 0, vI 0, .val .null, vU] []))
  refine Go.step (fun _ k => XS.iloadN X_177.here hx rfl (hb hby d_jdk_42_method_149_code_4) rfl  k) ?_
  show Go p e below _ (T_177.setTop (mkF m 5 #[vR a1, vR a2, vI 0, vI 0, .val .null, vU] [(.int (0 : Int32))]))
  refine Go.step (fun _ k => XS.ifNo X_177.here hx rfl (hb hby d_jdk_42_method_149_code_5) rfl ((if0 _ _).trans (teq ((by decide) : (0 : Int32) = (0 : Int32))).2) k) ?_
  show Go p e below _ (T_177.setTop (mkF m 8 #[vR a1, vR a2, vI 0, vI 0, .val .null, vU] []))
  refine Go.step (fun _ k => XS.aloadN X_177.here hx rfl (hb hby d_jdk_42_method_149_code_8) rfl rfl k) ?_
  show Go p e below _ (T_177.setTop (mkF m 9 #[vR a1, vR a2, vI 0, vI 0, .val .null, vU] [(.ref a1)]))
  obtain ⟨a_178, T_178, h_178, k1_178, t_178, kb_178, X_178, e_178, E_178, hS_178, hk_178, hZ_178, hown_178, Ex_178, Fc_178, Fv_178, Av_178, lta_178, ltb_178, C_178, Lt_178, -, st_178⟩ := ldcCH X_177 hx hZ hown (wd_34 hw) hwS e_177 hS0 hk0 hEL (by decide) CV0 (vs := []) (z := (0 : Int32)) ⟨by decide, by decide⟩ (by decide) (by decide) (g := (mkF m 9 #[vR a1, vR a2, vI 0, vI 0, .val .null, vU] [(.ref a1)])) rfl (hb hby d_jdk_42_method_149_code_9) (n := 0) (by decide) (by decide) (by decide) (by decide)
  refine Go.step st_178 ?_
  have CR_178 := CHr.trans (CHr.refl CV0) C_178
  have le_178 : h0.size ≤ h_178.size := E_178.1
  have KP_178 := KP0.ext E_178
  have O_178 := hO.ext E_178
  have Sx_178 : Str Z h_178.size h_178 a_178 ([] : List Int32) := ⟨t_178, kb_178, lta_178, ltb_178, Ex_178, Fv_178, Fc_178, Av_178, by decide, by decide⟩
  show Go p e below _ (T_178.setTop (mkF m 11 #[vR a1, vR a2, vI 0, vI 0, .val .null, vU] [(.ref a_178), (.ref a1)]))
  have cp179 := Sx_178
  obtain ⟨t180, kb180, -, hb180, Ex180, Fv180, Fc180, Av180, hl180, hn180⟩ := cp179
  obtain ⟨T_181, X_181, e_181, st_181⟩ := getF X_178 hx hZ_178 hown_178 (host := "") (Or.inl (wd_32 hw)) Via.refl e_178 Fv180 (g := (mkF m 11 #[vR a1, vR a2, vI 0, vI 0, .val .null, vU] [(.ref a_178), (.ref a1)])) rfl rfl (hb hby d_jdk_42_method_149_code_11)
  refine Go.step st_181 ?_
  show Go p e below _ (T_181.setTop (mkF m 14 #[vR a1, vR a2, vI 0, vI 0, .val .null, vU] [(.ref t180), (.ref a1)]))
  have f182 : Exa Z h_178 a1 "java/lang/String" := (E_a1.ext E_178)
  have f183 : Fld Z h_178 a1 "java/lang/String" "value" "[B" .null := (F_a1v.ext E_178)
  obtain ⟨T_184, h_184, X_184, e_184, W_184, st_184⟩ := putF X_181 hx hZ_178 hown_178 (host := "") (Or.inl (wd_32 hw)) Via.refl e_181 f183 f182 (Or.inr ⟨(wd_33 hw), rfl, hnm⟩) (wd_5 hw) (ty := (.array .byte)) pf_5 rfl rfl (g := (mkF m 14 #[vR a1, vR a2, vI 0, vI 0, .val .null, vU] [(.ref t180), (.ref a1)])) rfl rfl (hb hby d_jdk_42_method_149_code_14)
  refine Go.step st_184 ?_
  have N_184 := Fr.snoc X_184 N0 g_a1
  have C_184 := CHr.wr W_184 (CHr.safe C_178 E_a1.lt Sf_a1) C_178.1
  have CR_184 := CHr.trans CR_178 C_184
  have le_184 : h_178.size ≤ h_184.size := Nat.le_of_eq W_184.size.symm
  have KP_184 := KP_178.wr W_184 (Or.inl (List.mem_of_getElem? (i := 0) rfl))
  have O_184 := O_178.wr W_184 g_a1
  have F_184 : Fld Z h_184 a1 "java/lang/String" "value" "[B" (.ref t180) := f183.same W_184
  show Go p e below _ (T_184.setTop (mkF m 17 #[vR a1, vR a2, vI 0, vI 0, .val .null, vU] []))
  refine Go.step (fun _ k => XS.aloadN X_184.here hx rfl (hb hby d_jdk_42_method_149_code_17) rfl rfl k) ?_
  show Go p e below _ (T_184.setTop (mkF m 18 #[vR a1, vR a2, vI 0, vI 0, .val .null, vU] [(.ref a1)]))
  obtain ⟨a_185, T_185, h_185, k1_185, t_185, kb_185, X_185, e_185, E_185, hS_185, hk_185, hZ_185, hown_185, Ex_185, Fc_185, Fv_185, Av_185, lta_185, ltb_185, C_185, Lt_185, -, st_185⟩ := ldcCH X_184 hx hZ_178 hown_178 (wd_34 hw) hwS e_184 hS_178 (Nat.le_trans hk_178 le_184) hEL (by decide) C_184.1 (vs := []) (z := (0 : Int32)) ⟨by decide, by decide⟩ (by decide) (by decide) (g := (mkF m 18 #[vR a1, vR a2, vI 0, vI 0, .val .null, vU] [(.ref a1)])) rfl (hb hby d_jdk_42_method_149_code_18) (n := 0) (by decide) (by decide) (by decide) (by decide)
  refine Go.step st_185 ?_
  have CR_185 := CHr.trans CR_184 C_185
  have le_185 : h_184.size ≤ h_185.size := E_185.1
  have KP_185 := KP_184.ext E_185
  have O_185 := O_184.ext E_185
  have Sx_185 : Str Z h_185.size h_185 a_185 ([] : List Int32) := ⟨t_185, kb_185, lta_185, ltb_185, Ex_185, Fv_185, Fc_185, Av_185, by decide, by decide⟩
  show Go p e below _ (T_185.setTop (mkF m 20 #[vR a1, vR a2, vI 0, vI 0, .val .null, vU] [(.ref a_185), (.ref a1)]))
  have cp186 := Sx_185
  obtain ⟨t187, kb187, -, hb187, Ex187, Fv187, Fc187, Av187, hl187, hn187⟩ := cp186
  obtain ⟨T_188, X_188, e_188, st_188⟩ := getF X_185 hx hZ_185 hown_185 (host := "") (Or.inl (wd_30 hw)) Via.refl e_185 Fc187 (g := (mkF m 20 #[vR a1, vR a2, vI 0, vI 0, .val .null, vU] [(.ref a_185), (.ref a1)])) rfl rfl (hb hby d_jdk_42_method_149_code_20)
  refine Go.step st_188 ?_
  show Go p e below _ (T_188.setTop (mkF m 23 #[vR a1, vR a2, vI 0, vI 0, .val .null, vU] [(.int (0 : Int32)), (.ref a1)]))
  have f189 : Exa Z h_185 a1 "java/lang/String" := ((f182.wr W_184).ext E_185)
  have f190 : Fld Z h_185 a1 "java/lang/String" "coder" "B" (.int (0 : Int32)) := (((F_a1c.ext E_178).other W_184 (Or.inr (sn_17 hw))).ext E_185)
  obtain ⟨T_191, h_191, X_191, e_191, W_191, st_191⟩ := putFN X_188 hx hZ_185 hown_185 (wd_30 hw) Via.refl e_188 f190 f189 (Or.inr ⟨(wd_31 hw), rfl, hnm⟩) (wd_5 hw) (ty := .byte) (v' := (.int (0 : Int32))) pf_6 rfl (by decide) (g := (mkF m 23 #[vR a1, vR a2, vI 0, vI 0, .val .null, vU] [(.int (0 : Int32)), (.ref a1)])) rfl rfl (hb hby d_jdk_42_method_149_code_23)
  refine Go.step st_191 ?_
  have N_191 := Fr.snoc X_191 N_184 g_a1
  have C_191 := CHr.wr W_191 (CHr.safe (CHr.trans (CHr.trans C_178 C_184) C_185) E_a1.lt Sf_a1) C_185.1
  have CR_191 := CHr.trans CR_185 C_191
  have le_191 : h_185.size ≤ h_191.size := Nat.le_of_eq W_191.size.symm
  have KP_191 := KP_185.wr W_191 (Or.inl (List.mem_of_getElem? (i := 0) rfl))
  have O_191 := O_185.wr W_191 g_a1
  have F_191 : Fld Z h_191 a1 "java/lang/String" "coder" "B" (.int (0 : Int32)) := f190.same W_191
  show Go p e below _ (T_191.setTop (mkF m 26 #[vR a1, vR a2, vI 0, vI 0, .val .null, vU] []))
  have f192 : Exa Z h_191 a1 "java/lang/String" := (f189.wr W_191)
  have f193 : Fld Z h_191 a1 "java/lang/String" "value" "[B" (.ref t180) := ((F_184.ext E_185).other W_191 (Or.inr (sn_16 hw)))
  have f194 : Arv Z h_191 t180 kb180 .byte (0 : Int32) [] (.int (0 : Int32)) := (((Av180.other W_184 (Ne.symm (Exa.neArv (E_a1.ext E_178) Av180 (wd_5 hw)))).ext E_185).other W_191 (Ne.symm (Exa.neArv (E_a1.ext E_178) Av180 (wd_5 hw))))
  have Sx195 : Str Z h_191.size h_191 a1 ([] : List Int32) := ⟨t180, kb180, f192.lt, f194.lt, f192, f193, F_191, f194, by decide, Nat.le_of_ble_eq_true rfl⟩
  exact Go.ret0W X_191 e_191 hS_185 (Nat.le_trans hk_185 le_191) hZ_185 hEL hh0 CR_191 hx hlk hret (hb hby d_jdk_42_method_149_code_26) (by decide) (by decide) (by rw [e_191]; exact ⟨rfl, N_191, KP_191, Sx195⟩)
--@E
--@C init1e
def Q_init1e (Z : State) (zc : Int32) (vfm : Value) (vus : Value) (vss : Value) (a1 : Addr) (a2 : Addr) (k2 : ClassId) (h0 : Heap) (n0 : Nat) (v : Option Value) (h : Heap) (L : List Loc) : Prop := v = none ∧ Fr n0 L ∧ Keep h0 h [a1] ∧ Str Z h.size h a1 ([] : List Int32)
set_option maxRecDepth 65536 in
set_option maxHeartbeats 40000000 in
theorem rm_init1e (l : Launch) (Z : State) (a0 : Array Value) (hw : ∀ d ∈ tables_1, d.before a0 Z = true) (zc : Int32) (vfm : Value) (vus : Value) (vss : Value) (a1 : Addr) (a2 : Addr) (k2 : ClassId) (h0 : Heap) (n0 : Nat) (Z0 : n0 ≤ h0.size) (E_a1 : Exa Z h0 a1 "java/lang/String") (F_a1v : Fld Z h0 a1 "java/lang/String" "value" "[B" .null) (F_a1c : Fld Z h0 a1 "java/lang/String" "coder" "B" (.int (0 : Int32))) (g_a1 : n0 ≤ a1) (A_a2 : Arv Z h0 a2 k2 .char (0 : Int32) [] (.int (0 : Int32))) (hSt : St Z zc vfm vus vss) (hO : Old Z n0 h0) :
    CW l Z EL ({ cls := "java/lang/String", name := "<init>", desc := "([C)V" } : Jvm.MethodName) [(Jvm.Cond.code ({ cls := "java/lang/String", name := "<init>", desc := "([C)V" } : Jvm.MethodName) jdk_42_method_3_code (2 : Nat) (Option.none : Option Jvm.ClassFile.FieldType))] ({ frames := 2, cells := 4, slots := 8, locals := 29 } : Room) #[(.ref a1), (.ref a2)] h0 (Q_init1e Z zc vfm vus vss a1 a2 k2 h0 n0) := by
  refine CW.of (L0 := #[vR a1, vR a2]) (plainFor_of_name pn_7) (fun m => by first | (simp [entryFrame, mkF, argsToLocals, Value.category]; done) | rfl) ?_
  intro p e s m below meth c s₁ hx hby hml hret hlk hZ hown hnm X0 e0 hS0 hk0 CV0 hh0
  have hEL := hEL_ (a0 := a0) hw
  have hwS := hwS_ hw
  have N0 := Fr.nil n0
  have KP0 := Keep.refl h0 [a1]
  have hSt_ := hSt
  obtain ⟨S_cs, n_cs, S_fm, r_fm, S_us, r_us, S_ss, r_ss⟩ := hSt_
  have Sf_a1 : Safe Z EL s.vm h0 a1 := own_safe_null hZ.alike E_a1 F_a1v (wd_5 hw)
  show Go p e below _ (s₁.setTop (mkF m 0 #[vR a1, vR a2] []))
  refine Go.step (fun _ k => XS.aloadN X0.here hx rfl (hb hby d_jdk_42_method_3_code_0) rfl rfl k) ?_
  refine Go.step (fun _ k => XS.aloadN X0.here hx rfl (hb hby d_jdk_42_method_3_code_1) rfl rfl k) ?_
  refine Go.step (fun _ k => XS.iconst X0.here hx rfl (hb hby d_jdk_42_method_3_code_2) k) ?_
  refine Go.step (fun _ k => XS.aloadN X0.here hx rfl (hb hby d_jdk_42_method_3_code_3) rfl rfl k) ?_
  show Go p e below _ (s₁.setTop (mkF m 4 #[vR a1, vR a2] [(.ref a2), (.int (0 : Int32)), (.ref a2), (.ref a1)]))
  have cp197 := A_a2
  obtain ⟨cl_196, Ar_196, -, Sz_196, Ng_196, -, -⟩ := cp197
  refine Go.step (fun _ k => X0.arraylength hx (by rw [e0]; exact Ar_196.1) (State.isArrayOf_alike hZ.alike Ar_196.2.1) (g := (mkF m 4 #[vR a1, vR a2] [(.ref a2), (.int (0 : Int32)), (.ref a2), (.ref a1)])) rfl rfl (hb hby d_jdk_42_method_3_code_4) _ k) ?_
  rw [len_of Sz_196 Ng_196]
  show Go p e below _ (s₁.setTop (mkF m 5 #[vR a1, vR a2] [(.int (0 : Int32)), (.int (0 : Int32)), (.ref a2), (.ref a1)]))
  refine Go.step (fun _ k => XS.aconstNull X0.here hx rfl (hb hby d_jdk_42_method_3_code_5) k) ?_
  show Go p e below _ (s₁.setTop (mkF m 6 #[vR a1, vR a2] [.null, (.int (0 : Int32)), (.int (0 : Int32)), (.ref a2), (.ref a1)]))
  obtain ⟨v_198, T_198, L_198, X_198, hQ_198, hS_198, hZ_198, hown_198, C_198, st_198⟩ := goCW X0 hx hZ (y := Y_29) hown hS0 hk0 rfl (wd_11 hw) (wd_12 hw) (wd_14 hw) (by decide) (backOfSH (W := 0) (rm_init4e l Z a0 hw zc vfm vus vss (a1) (a2) h0 n0 (Nat.le_trans Z0 KP0.1) E_a1 F_a1v F_a1c g_a1 hSt hO) hZ (wd_14 hw) (wd_6 hw) (by decide) (by decide) hEL CV0) e0 (g := (mkF m 6 #[vR a1, vR a2] [.null, (.int (0 : Int32)), (.int (0 : Int32)), (.ref a2), (.ref a1)])) rfl (by rw [hml]; rfl) (a := a1) (argsL := [(.ref a2), (.int (0 : Int32)), (.int (0 : Int32)), .null]) (rest := []) rfl (lenOf pd_18 rfl) rfl (by show 2 * 0 + _ ≤ _; exact Nat.le_of_eq rfl) (hb hby d_jdk_42_method_3_code_6) (by decide) (by decide)
  obtain ⟨rfl, Nq_198, K_198, u0_198⟩ := hQ_198
  have N_198 := Fr.app N0 Nq_198
  have CR_198 := CHr.trans (CHr.refl CV0) C_198
  have le_198 : h0.size ≤ T_198.heap.size := K_198.1
  have KP_198 := KP0.trans K_198 (allS (Or.inl (List.mem_of_getElem? (i := 0) rfl)) all0)
  have O_198 := hO.keep K_198 (allS g_a1 all0)
  refine Go.step st_198 ?_
  show Go p e below _ (T_198.setTop (mkF m 9 #[vR a1, vR a2] []))
  exact Go.ret0W X_198 rfl hS_198 (Nat.le_refl _) hZ_198 hEL hh0 CR_198 hx hlk hret (hb hby d_jdk_42_method_3_code_9) (by decide) (by decide) (by exact ⟨rfl, N_198, KP_198, u0_198⟩)
--@E
theorem i8_i8 (x : Int32) : x.toInt8.toInt32.toInt8.toInt32 = x.toInt8.toInt32 := by simp

--@C canEncode
def Q_canEncode (Z : State) (zc : Int32) (vfm : Value) (vus : Value) (vss : Value) (p1 : Int32) (h0 : Heap) (n0 : Nat) (v : Option Value) (h : Heap) (L : List Loc) : Prop := v = some (.int (1 : Int32)) ∧ Fr n0 L ∧ h = h0
set_option maxRecDepth 65536 in
set_option maxHeartbeats 40000000 in
theorem rm_canEncode (l : Launch) (Z : State) (a0 : Array Value) (hw : ∀ d ∈ tables_1, d.before a0 Z = true) (zc : Int32) (vfm : Value) (vus : Value) (vss : Value) (p1 : Int32) (h0 : Heap) (n0 : Nat) (Z0 : n0 ≤ h0.size) (l_p1 : (¬ p1 < 0 ∧ ¬ (255 : Int32) < p1)) (hSt : St Z zc vfm vus vss) (hO : Old Z n0 h0) :
    CN l Z ({ cls := "java/lang/StringLatin1", name := "canEncode", desc := "(C)Z" } : Jvm.MethodName) [(Jvm.Cond.code ({ cls := "java/lang/StringLatin1", name := "canEncode", desc := "(C)Z" } : Jvm.MethodName) jdk_43_method_3_code (1 : Nat) (Option.some Jvm.ClassFile.FieldType.boolean))] ({ frames := 0, cells := 0, slots := 0, locals := 0 } : Room) #[(.int p1)] h0 (Q_canEncode Z zc vfm vus vss p1 h0 n0) := by
  refine CN.of (L0 := #[vI p1]) (plainFor_of_name pn_10) (fun m => by first | (simp [entryFrame, mkF, argsToLocals, Value.category]; done) | rfl) ?_
  intro p e s m below meth c s₁ hx hby hml hret hlk hZ hown hnm X0 e0
  have N0 := Fr.nil n0
  have KP0 := Keep.refl h0 []
  have hSt_ := hSt
  obtain ⟨S_cs, n_cs, S_fm, r_fm, S_us, r_us, S_ss, r_ss⟩ := hSt_
  show Go p e below _ (s₁.setTop (mkF m 0 #[vI p1] []))
  refine Go.step (fun _ k => XS.iloadN X0.here hx rfl (hb hby d_jdk_43_method_3_code_0) rfl  k) ?_
  refine Go.step (fun _ k => XS.sipush X0.here hx rfl (hb hby d_jdk_43_method_3_code_1) k) ?_
  show Go p e below _ (s₁.setTop (mkF m 4 #[vI p1] [(.int (255 : Int32)), (.int p1)]))
  refine Go.step (fun _ k => XS.icmpNo X0.here hx rfl (hb hby d_jdk_43_method_3_code_4) rfl (flt (l_p1.2 : ¬ ((255 : Int32) < p1))).2.2.1 k) ?_
  show Go p e below _ (s₁.setTop (mkF m 7 #[vI p1] []))
  refine Go.step (fun _ k => XS.iconst X0.here hx rfl (hb hby d_jdk_43_method_3_code_7) k) ?_
  show Go p e below _ (s₁.setTop (mkF m 8 #[vI p1] [(.int (1 : Int32))]))
  refine Go.step (fun _ k => XS.goto X0.here hx rfl (pc0 := 8) (pc' := 12) rfl (hb hby d_jdk_43_method_3_code_8) (by decide) (by decide) k) ?_
  show Go p e below _ (s₁.setTop (mkF m 12 #[vI p1] [(.int (1 : Int32))]))
  exact Go.retV X0 hx hlk hret rfl (Or.inl ⟨rfl, Or.inr (Or.inl rfl), _, rfl⟩) (hb hby d_jdk_43_method_3_code_12) (by decide) (by decide) (by rw [e0]; exact ⟨rfl, N0, rfl⟩)
--@E
--@C toBytes
def Q_toBytes (Z : State) (zc : Int32) (vfm : Value) (vus : Value) (vss : Value) (p1 : Int32) (h0 : Heap) (n0 : Nat) (v : Option Value) (h : Heap) (L : List Loc) : Prop := ∃ (r : Addr) (kr : ClassId), v = some (.ref r) ∧ Fr n0 L ∧ Keep h0 h [] ∧ h0.size ≤ r ∧ Arv Z h r kr .byte (1 : Int32) [(.int p1.toInt8.toInt32)] (.int (0 : Int32))
set_option maxRecDepth 65536 in
set_option maxHeartbeats 40000000 in
theorem rm_toBytes (l : Launch) (Z : State) (a0 : Array Value) (hw : ∀ d ∈ tables_1, d.before a0 Z = true) (zc : Int32) (vfm : Value) (vus : Value) (vss : Value) (p1 : Int32) (h0 : Heap) (n0 : Nat) (Z0 : n0 ≤ h0.size) (hSt : St Z zc vfm vus vss) (hO : Old Z n0 h0) :
    CN l Z ({ cls := "java/lang/StringLatin1", name := "toBytes", desc := "(C)[B" } : Jvm.MethodName) [(Jvm.Cond.code ({ cls := "java/lang/StringLatin1", name := "toBytes", desc := "(C)[B" } : Jvm.MethodName) jdk_43_method_46_code (1 : Nat) (Option.some (Jvm.ClassFile.FieldType.array Jvm.ClassFile.FieldType.byte)))] ({ frames := 0, cells := 1, slots := 1, locals := 0 } : Room) #[(.int p1)] h0 (Q_toBytes Z zc vfm vus vss p1 h0 n0) := by
  refine CN.of (L0 := #[vI p1]) (plainFor_of_name pn_10) (fun m => by first | (simp [entryFrame, mkF, argsToLocals, Value.category]; done) | rfl) ?_
  intro p e s m below meth c s₁ hx hby hml hret hlk hZ hown hnm X0 e0
  have N0 := Fr.nil n0
  have KP0 := Keep.refl h0 []
  have hSt_ := hSt
  obtain ⟨S_cs, n_cs, S_fm, r_fm, S_us, r_us, S_ss, r_ss⟩ := hSt_
  show Go p e below _ (s₁.setTop (mkF m 0 #[vI p1] []))
  refine Go.step (fun _ k => XS.iconst X0.here hx rfl (hb hby d_jdk_43_method_46_code_0) k) ?_
  show Go p e below _ (s₁.setTop (mkF m 1 #[vI p1] [(.int (1 : Int32))]))
  obtain ⟨T_199, h_199, k_199, X_199, e_199, E_199, A_199, st_199⟩ := newP X0 hx hZ (aty := .byte) (wd_23 hw) e0 (g := (mkF m 1 #[vI p1] [(.int (1 : Int32))])) rfl (hb hby d_jdk_43_method_46_code_1) rfl (by decide) (cap := 1) (by decide) (by decide) (by decide) (by decide)
  obtain ⟨b199, q_199⟩ : ∃ z, z = h0.size := ⟨_, rfl⟩
  rw [← q_199] at A_199 st_199
  refine Go.step st_199 ?_
  have le_199 : h0.size ≤ h_199.size := E_199.1
  have KP_199 := KP0.ext E_199
  have O_199 := hO.ext E_199
  have ge_199 : h0.size ≤ b199 := Nat.le_of_eq q_199.symm
  have sz_b199 : h0.size ≤ b199 := Nat.le_trans (Nat.le_refl _) ge_199
  have g_b199 : n0 ≤ b199 := Nat.le_trans Z0 sz_b199
  have V_199 : Arv Z h_199 b199 k_199 .byte (1 : Int32) [(.int (0 : Int32))] (.int (0 : Int32)) := (Arv.new A_199 (by decide)).pad (pad_rep [] (.int (0 : Int32)) 1)
  show Go p e below _ (T_199.setTop (mkF m 3 #[vI p1] [(.ref b199)]))
  refine Go.step (fun _ k => XS.dup X_199.here hx rfl (hb hby d_jdk_43_method_46_code_3) rfl rfl k) ?_
  refine Go.step (fun _ k => XS.iconst X_199.here hx rfl (hb hby d_jdk_43_method_46_code_4) k) ?_
  refine Go.step (fun _ k => XS.iloadN X_199.here hx rfl (hb hby d_jdk_43_method_46_code_5) rfl  k) ?_
  show Go p e below _ (T_199.setTop (mkF m 6 #[vI p1] [(.int p1), (.int (0 : Int32)), (.ref b199), (.ref b199)]))
  refine Go.step (fun _ k => XS.i2b X_199.here hx rfl (hb hby d_jdk_43_method_46_code_6) rfl k) ?_
  show Go p e below _ (T_199.setTop (mkF m 7 #[vI p1] [(.int p1.toInt8.toInt32), (.int (0 : Int32)), (.ref b199), (.ref b199)]))
  have cp201 := V_199
  obtain ⟨cl_200, Ar_200, ck_200, Sz_200, Ng_200, Hs_200, Gs_200⟩ := cp201
  have hin_200 : ¬ ((0 : Int32) < 0 ∨ cl_200.slots.size ≤ ((0 : Int32)).toNatClampNeg) := inb_of Sz_200 ⟨by decide, by decide⟩
  obtain ⟨T_200, h_200, X_200, e_200, W_200, st_200⟩ := stB X_199 hx hZ e_199 Ar_200 (j := (0 : Int32)) hin_200 (g := (mkF m 7 #[vI p1] [(.int p1.toInt8.toInt32), (.int (0 : Int32)), (.ref b199), (.ref b199)])) rfl rfl (hb hby d_jdk_43_method_46_code_7)
  refine Go.step st_200 ?_
  have N_200 := Fr.snoc X_200 N0 g_b199
  have le_200 : h_199.size ≤ h_200.size := Nat.le_of_eq W_200.size.symm
  have KP_200 := KP_199.wr W_200 (Or.inr sz_b199)
  have O_200 := O_199.wr W_200 g_b199
  have V_200 : Arv Z h_200 b199 k_199 .byte (1 : Int32) [(.int p1.toInt8.toInt32)] (.int (0 : Int32)) := by
    have q := Arv.set Ar_200 ck_200 Sz_200 Ng_200 Hs_200 Gs_200 (fits_nar_byte _) W_200 0 rfl (Nat.le_of_ble_eq_true rfl)
    rw [i8_i8] at q; exact q
  show Go p e below _ (T_200.setTop (mkF m 8 #[vI p1] [(.ref b199)]))
  exact Go.retV X_200 hx hlk hret rfl (Or.inr (Or.inr (Or.inr (Or.inr ⟨rfl, rfl, rfl⟩)))) (hb hby d_jdk_43_method_46_code_8) (by decide) (by decide) (by rw [e_200]; exact ⟨b199, k_199, rfl, N_200, KP_200, sz_b199, V_200⟩)
--@E
--@C initBB
def Q_initBB (Z : State) (zc : Int32) (vfm : Value) (vus : Value) (vss : Value) (a1 : Addr) (a2 : Addr) (h0 : Heap) (n0 : Nat) (v : Option Value) (h : Heap) (L : List Loc) : Prop := v = none ∧ Fr n0 L ∧ Keep h0 h [a1] ∧ Exa Z h a1 "java/lang/String" ∧ Fld Z h a1 "java/lang/String" "value" "[B" (.ref a2) ∧ Fld Z h a1 "java/lang/String" "coder" "B" (.int (0 : Int32))
set_option maxRecDepth 65536 in
set_option maxHeartbeats 40000000 in
theorem rm_initBB (l : Launch) (Z : State) (a0 : Array Value) (hw : ∀ d ∈ tables_1, d.before a0 Z = true) (zc : Int32) (vfm : Value) (vus : Value) (vss : Value) (a1 : Addr) (a2 : Addr) (h0 : Heap) (n0 : Nat) (Z0 : n0 ≤ h0.size) (E_a1 : Exa Z h0 a1 "java/lang/String") (F_a1v : Fld Z h0 a1 "java/lang/String" "value" "[B" .null) (F_a1c : Fld Z h0 a1 "java/lang/String" "coder" "B" (.int (0 : Int32))) (g_a1 : n0 ≤ a1) (hSt : St Z zc vfm vus vss) (hO : Old Z n0 h0) :
    CN l Z ({ cls := "java/lang/String", name := "<init>", desc := "([BB)V" } : Jvm.MethodName) [(Jvm.Cond.code ({ cls := "java/lang/String", name := "<init>", desc := "([BB)V" } : Jvm.MethodName) jdk_42_method_151_code (3 : Nat) (Option.none : Option Jvm.ClassFile.FieldType))] ({ frames := 1, cells := 0, slots := 0, locals := 12 } : Room) #[(.ref a1), (.ref a2), (.int (0 : Int32))] h0 (Q_initBB Z zc vfm vus vss a1 a2 h0 n0) := by
  refine CN.of (L0 := #[vR a1, vR a2, vI 0]) (plainFor_of_name pn_7) (fun m => by first | (simp [entryFrame, mkF, argsToLocals, Value.category]; done) | rfl) ?_
  intro p e s m below meth c s₁ hx hby hml hret hlk hZ hown hnm X0 e0
  have N0 := Fr.nil n0
  have KP0 := Keep.refl h0 [a1]
  have hSt_ := hSt
  obtain ⟨S_cs, n_cs, S_fm, r_fm, S_us, r_us, S_ss, r_ss⟩ := hSt_
  show Go p e below _ (s₁.setTop (mkF m 0 #[vR a1, vR a2, vI 0] []))
  refine Go.step (fun _ k => XS.aloadN X0.here hx rfl (hb hby d_jdk_42_method_151_code_0) rfl rfl k) ?_
  show Go p e below _ (s₁.setTop (mkF m 1 #[vR a1, vR a2, vI 0] [(.ref a1)]))
  obtain ⟨T_202, X_202, e_202, st_202⟩ := initO X0 hx hZ hown (wd_15 hw) (wd_16 hw) (wd_17 hw) e0 (g := (mkF m 1 #[vR a1, vR a2, vI 0] [(.ref a1)])) rfl (by rw [hml]; rfl) rfl (hb hby d_jdk_42_method_151_code_1) (by decide) (W := 0) (by show 2 * 0 + _ ≤ _; exact Nat.le_of_eq rfl) (by decide)
  refine Go.step st_202 ?_
  show Go p e below _ (T_202.setTop (mkF m 4 #[vR a1, vR a2, vI 0] []))
  refine Go.step (fun _ k => XS.aloadN X_202.here hx rfl (hb hby d_jdk_42_method_151_code_4) rfl rfl k) ?_
  refine Go.step (fun _ k => XS.aloadN X_202.here hx rfl (hb hby d_jdk_42_method_151_code_5) rfl rfl k) ?_
  show Go p e below _ (T_202.setTop (mkF m 6 #[vR a1, vR a2, vI 0] [(.ref a2), (.ref a1)]))
  obtain ⟨T_203, h_203, X_203, e_203, W_203, st_203⟩ := putF X_202 hx hZ hown (host := "") (Or.inl (wd_32 hw)) Via.refl e_202 F_a1v E_a1 (Or.inr ⟨(wd_33 hw), rfl, hnm⟩) (wd_5 hw) (ty := (.array .byte)) pf_5 rfl rfl (g := (mkF m 6 #[vR a1, vR a2, vI 0] [(.ref a2), (.ref a1)])) rfl rfl (hb hby d_jdk_42_method_151_code_6)
  refine Go.step st_203 ?_
  have N_203 := Fr.snoc X_203 N0 g_a1
  have le_203 : h0.size ≤ h_203.size := Nat.le_of_eq W_203.size.symm
  have KP_203 := KP0.wr W_203 (Or.inl (List.mem_of_getElem? (i := 0) rfl))
  have O_203 := hO.wr W_203 g_a1
  have F_203 : Fld Z h_203 a1 "java/lang/String" "value" "[B" (.ref a2) := F_a1v.same W_203
  show Go p e below _ (T_203.setTop (mkF m 9 #[vR a1, vR a2, vI 0] []))
  refine Go.step (fun _ k => XS.aloadN X_203.here hx rfl (hb hby d_jdk_42_method_151_code_9) rfl rfl k) ?_
  refine Go.step (fun _ k => XS.iloadN X_203.here hx rfl (hb hby d_jdk_42_method_151_code_10) rfl  k) ?_
  show Go p e below _ (T_203.setTop (mkF m 11 #[vR a1, vR a2, vI 0] [(.int (0 : Int32)), (.ref a1)]))
  have f204 : Exa Z h_203 a1 "java/lang/String" := (E_a1.wr W_203)
  have f205 : Fld Z h_203 a1 "java/lang/String" "coder" "B" (.int (0 : Int32)) := (F_a1c.other W_203 (Or.inr (sn_17 hw)))
  obtain ⟨T_206, h_206, X_206, e_206, W_206, st_206⟩ := putFN X_203 hx hZ hown (wd_30 hw) Via.refl e_203 f205 f204 (Or.inr ⟨(wd_31 hw), rfl, hnm⟩) (wd_5 hw) (ty := .byte) (v' := (.int (0 : Int32))) pf_6 rfl (by decide) (g := (mkF m 11 #[vR a1, vR a2, vI 0] [(.int (0 : Int32)), (.ref a1)])) rfl rfl (hb hby d_jdk_42_method_151_code_11)
  refine Go.step st_206 ?_
  have N_206 := Fr.snoc X_206 N_203 g_a1
  have le_206 : h_203.size ≤ h_206.size := Nat.le_of_eq W_206.size.symm
  have KP_206 := KP_203.wr W_206 (Or.inl (List.mem_of_getElem? (i := 0) rfl))
  have O_206 := O_203.wr W_206 g_a1
  have F_206 : Fld Z h_206 a1 "java/lang/String" "coder" "B" (.int (0 : Int32)) := f205.same W_206
  show Go p e below _ (T_206.setTop (mkF m 14 #[vR a1, vR a2, vI 0] []))
  have f207 : Exa Z h_206 a1 "java/lang/String" := (f204.wr W_206)
  have f208 : Fld Z h_206 a1 "java/lang/String" "value" "[B" (.ref a2) := (F_203.other W_206 (Or.inr (sn_16 hw)))
  exact Go.ret0 X_206 hx hlk hret (hb hby d_jdk_42_method_151_code_14) (by decide) (by decide) (by rw [e_206]; exact ⟨rfl, N_206, KP_206, f207, f208, F_206⟩)
--@E
--@C valueOf
def Q_valueOf (Z : State) (zc : Int32) (vfm : Value) (vus : Value) (vss : Value) (p1 : Int32) (h0 : Heap) (n0 : Nat) (v : Option Value) (h : Heap) (L : List Loc) : Prop := ∃ (r : Addr), v = some (.ref r) ∧ Fr n0 L ∧ Keep h0 h [] ∧ h0.size ≤ r ∧ Str Z h.size h r ([p1] : List Int32)
set_option maxRecDepth 65536 in
set_option maxHeartbeats 40000000 in
theorem rm_valueOf (l : Launch) (Z : State) (a0 : Array Value) (hw : ∀ d ∈ tables_1, d.before a0 Z = true) (zc : Int32) (vfm : Value) (vus : Value) (vss : Value) (p1 : Int32) (h0 : Heap) (n0 : Nat) (Z0 : n0 ≤ h0.size) (l_p1 : (¬ p1 < 0 ∧ ¬ (255 : Int32) < p1)) (hSt : St Z zc vfm vus vss) (hO : Old Z n0 h0) :
    CN l Z ({ cls := "java/lang/String", name := "valueOf", desc := "(C)Ljava/lang/String;" } : Jvm.MethodName) [(Jvm.Cond.code ({ cls := "java/lang/String", name := "valueOf", desc := "(C)Ljava/lang/String;" } : Jvm.MethodName) jdk_42_method_139_code (1 : Nat) (Option.some (Jvm.ClassFile.FieldType.object "java/lang/String")))] ({ frames := 2, cells := 2, slots := 5, locals := 27 } : Room) #[(.int p1)] h0 (Q_valueOf Z zc vfm vus vss p1 h0 n0) := by
  refine CN.of (L0 := #[vI p1]) (plainFor_of_name pn_7) (fun m => by first | (simp [entryFrame, mkF, argsToLocals, Value.category]; done) | rfl) ?_
  intro p e s m below meth c s₁ hx hby hml hret hlk hZ hown hnm X0 e0
  have N0 := Fr.nil n0
  have KP0 := Keep.refl h0 []
  have hSt_ := hSt
  obtain ⟨S_cs, n_cs, S_fm, r_fm, S_us, r_us, S_ss, r_ss⟩ := hSt_
  show Go p e below _ (s₁.setTop (mkF m 0 #[vI p1] []))
  obtain ⟨T_209, X_209, e_209, st_209⟩ := getS2 X0 hx hZ hown (host := "") (Or.inl (wd_18 hw)) Via.refl e0 (S_cs.ext hO.2) (g := (mkF m 0 #[vI p1] [])) rfl (hb hby d_jdk_42_method_139_code_0)
  refine Go.step st_209 ?_
  show Go p e below _ (T_209.setTop (mkF m 3 #[vI p1] [(.int zc)]))
  refine Go.step (fun _ k => XS.ifNo X_209.here hx rfl (hb hby d_jdk_42_method_139_code_3) rfl ((if0 _ _).trans (feq (n_cs : ¬ (zc = (0 : Int32)))).1) k) ?_
  show Go p e below _ (T_209.setTop (mkF m 6 #[vI p1] []))
  refine Go.step (fun _ k => XS.iloadN X_209.here hx rfl (hb hby d_jdk_42_method_139_code_6) rfl  k) ?_
  show Go p e below _ (T_209.setTop (mkF m 7 #[vI p1] [(.int p1)]))
  obtain ⟨v_210, T_210, L_210, X_210, hQ_210, st_210⟩ := goS X_209 hx hZ (y := Y_30) hown (wd_262 hw) (wd_263 hw) (wd_244 hw) (wd_264 hw) (by decide) (backOf (W := 0) (rm_canEncode l Z a0 hw zc vfm vus vss (p1) h0 n0 (Nat.le_trans Z0 KP0.1) l_p1 hSt hO) hZ (wd_264 hw) (wd_244 hw) (by decide) (by decide)) e_209 (g := (mkF m 7 #[vI p1] [(.int p1)])) rfl (by rw [hml]; rfl) (argsL := [(.int p1)]) (rest := []) rfl (lenOf pd_19 rfl) rfl (by show 2 * 0 + _ ≤ _; exact Nat.le_of_eq rfl) (hb hby d_jdk_42_method_139_code_7) (by decide) (by decide)
  obtain ⟨rfl, Nq_210, e_210⟩ := hQ_210
  have N_210 := Fr.app N0 Nq_210
  refine Go.step st_210 ?_
  show Go p e below _ (T_210.setTop (mkF m 10 #[vI p1] [(.int (1 : Int32))]))
  refine Go.step (fun _ k => XS.ifNo X_210.here hx rfl (hb hby d_jdk_42_method_139_code_10) rfl ((if0 _ _).trans (feq ((by decide) : ¬ ((1 : Int32) = (0 : Int32)))).1) k) ?_
  show Go p e below _ (T_210.setTop (mkF m 13 #[vI p1] []))
  obtain ⟨T_211, h_211, X_211, e_211, E_211, A_211, D_211, Un_211, st_211⟩ := newO X_210 hx hZ hown (wd_265 hw) (wd_5 hw) (wd_6 hw) e_210 (g := (mkF m 13 #[vI p1] [])) rfl (hb hby d_jdk_42_method_139_code_13) (by decide) (by decide)
  obtain ⟨b211, q_211⟩ : ∃ z, z = h0.size := ⟨_, rfl⟩
  rw [← q_211] at A_211 D_211 Un_211 st_211
  refine Go.step st_211 ?_
  have le_211 : h0.size ≤ h_211.size := E_211.1
  have KP_211 := KP0.ext E_211
  have O_211 := hO.ext E_211
  have ge_211 : h0.size ≤ b211 := Nat.le_of_eq q_211.symm
  have sz_b211 : h0.size ≤ b211 := Nat.le_trans (Nat.le_refl _) ge_211
  have g_b211 : n0 ≤ b211 := Nat.le_trans Z0 sz_b211
  have F_211_31 : Fld Z h_211 b211 "java/lang/String" "coder" "B" (.int (0 : Int32)) := D_211 (Or.inr (wd_31 hw)) (ty := .byte) pf_6
  have F_211_33 : Fld Z h_211 b211 "java/lang/String" "value" "[B" .null := D_211 (Or.inr (wd_33 hw)) (ty := (.array .byte)) pf_5
  show Go p e below _ (T_211.setTop (mkF m 16 #[vI p1] [(.ref b211)]))
  refine Go.step (fun _ k => XS.dup X_211.here hx rfl (hb hby d_jdk_42_method_139_code_16) rfl rfl k) ?_
  refine Go.step (fun _ k => XS.iloadN X_211.here hx rfl (hb hby d_jdk_42_method_139_code_17) rfl  k) ?_
  show Go p e below _ (T_211.setTop (mkF m 18 #[vI p1] [(.int p1), (.ref b211), (.ref b211)]))
  obtain ⟨v_212, T_212, L_212, X_212, hQ_212, st_212⟩ := goS X_211 hx hZ (y := Y_31) hown (wd_266 hw) (wd_267 hw) (wd_244 hw) (wd_268 hw) (by decide) (backOf (W := 2) (rm_toBytes l Z a0 hw zc vfm vus vss (p1) h_211 n0 (Nat.le_trans Z0 KP_211.1) hSt O_211) hZ (wd_268 hw) (wd_244 hw) (by decide) (by decide)) e_211 (g := (mkF m 18 #[vI p1] [(.int p1), (.ref b211), (.ref b211)])) rfl (by rw [hml]; rfl) (argsL := [(.int p1)]) (rest := [(.ref b211), (.ref b211)]) rfl (lenOf pd_20 rfl) rfl (by show 2 * 0 + _ ≤ _; exact Nat.le_of_eq rfl) (hb hby d_jdk_42_method_139_code_18) (by decide) (by decide)
  obtain ⟨r_212, kr_212, rfl, Nq_212, K_212, u0_212, u1_212⟩ := hQ_212
  have N_212 := Fr.app N_210 Nq_212
  have le_212 : h_211.size ≤ T_212.heap.size := K_212.1
  have KP_212 := KP_211.trans K_212 all0
  have O_212 := O_211.keep K_212 all0
  have sz_r_212 : h0.size ≤ r_212 := Nat.le_trans le_211 u0_212
  have g_r_212 : n0 ≤ r_212 := Nat.le_trans Z0 sz_r_212
  refine Go.step st_212 ?_
  show Go p e below _ (T_212.setTop (mkF m 21 #[vI p1] [(.ref r_212), (.ref b211), (.ref b211)]))
  refine Go.step (fun _ k => XS.iconst X_212.here hx rfl (hb hby d_jdk_42_method_139_code_21) k) ?_
  show Go p e below _ (T_212.setTop (mkF m 22 #[vI p1] [(.int (0 : Int32)), (.ref r_212), (.ref b211), (.ref b211)]))
  have f213 : Exa Z T_212.heap b211 "java/lang/String" := (A_211.keep K_212)
  have f214 : Fld Z T_212.heap b211 "java/lang/String" "value" "[B" .null := (F_211_33.keep K_212 nin0)
  have f215 : Fld Z T_212.heap b211 "java/lang/String" "coder" "B" (.int (0 : Int32)) := (F_211_31.keep K_212 nin0)
  obtain ⟨v_216, T_216, L_216, X_216, hQ_216, st_216⟩ := goC X_212 hx hZ (y := Y_32) hown rfl (wd_269 hw) (wd_270 hw) (wd_271 hw) (by decide) (backOf (W := 1) (rm_initBB l Z a0 hw zc vfm vus vss (b211) (r_212) T_212.heap n0 (Nat.le_trans Z0 KP_212.1) f213 f214 f215 g_b211 hSt O_212) hZ (wd_271 hw) (wd_6 hw) (by decide) (by decide)) rfl (g := (mkF m 22 #[vI p1] [(.int (0 : Int32)), (.ref r_212), (.ref b211), (.ref b211)])) rfl (by rw [hml]; rfl) (a := b211) (argsL := [(.ref r_212), (.int (0 : Int32))]) (rest := [(.ref b211)]) rfl (lenOf pd_21 rfl) rfl (by show 2 * 0 + _ ≤ _; exact Nat.le_of_eq rfl) (hb hby d_jdk_42_method_139_code_22) (by decide) (by decide)
  obtain ⟨rfl, Nq_216, K_216, u0_216, u1_216, u2_216⟩ := hQ_216
  have N_216 := Fr.app N_212 Nq_216
  have le_216 : T_212.heap.size ≤ T_216.heap.size := K_216.1
  have KP_216 := KP_212.trans K_216 (allS (Or.inr sz_b211) all0)
  have O_216 := O_212.keep K_216 (allS g_b211 all0)
  refine Go.step st_216 ?_
  show Go p e below _ (T_216.setTop (mkF m 25 #[vI p1] [(.ref b211)]))
  have f217 : Arv Z T_216.heap r_212 kr_212 .byte (1 : Int32) [(.int p1.toInt8.toInt32)] (.int (0 : Int32)) := (u1_212.keep K_216 (ninS (Ne.symm (Nat.ne_of_lt (Nat.lt_of_lt_of_le A_211.lt (Nat.le_trans (Nat.le_refl _) u0_212)))) nin0))
  have Sx218 : Str Z (T_216.heap).size (T_216.heap) b211 ([p1] : List Int32) := ⟨r_212, kr_212, u0_216.lt, f217.lt, u0_216, u1_216, u2_216, f217, latc l_p1 lat0, Nat.le_of_ble_eq_true rfl⟩
  exact Go.retV X_216 hx hlk hret rfl (Or.inr (Or.inr (Or.inr (Or.inr ⟨rfl, rfl, rfl⟩)))) (hb hby d_jdk_42_method_139_code_25) (by decide) (by decide) (by exact ⟨b211, rfl, N_216, KP_216, sz_b211, Sx218⟩)
--@E
def mks (n c0 c1 : Int32) : List Int32 := if n = 0 then [] else if n = 1 then [c0] else [c0, c1]
--@C mk
def Q_mk (Z : State) (zc : Int32) (vfm : Value) (vus : Value) (vss : Value) (n1 : Int32) (c0 : Int32) (c1 : Int32) (h0 : Heap) (n0 : Nat) (v : Option Value) (h : Heap) (L : List Loc) : Prop := ∃ (r : Addr), v = some (.ref r) ∧ Fr n0 L ∧ Keep h0 h [] ∧ h0.size ≤ r ∧ Str Z h.size h r (mks n1 c0 c1)
set_option maxRecDepth 65536 in
set_option maxHeartbeats 40000000 in
theorem rm_mk (l : Launch) (Z : State) (a0 : Array Value) (hw : ∀ d ∈ tables_1, d.before a0 Z = true) (zc : Int32) (vfm : Value) (vus : Value) (vss : Value) (n1 : Int32) (c0 : Int32) (c1 : Int32) (h0 : Heap) (n0 : Nat) (Z0 : n0 ≤ h0.size) (l_c0 : (¬ c0 < 0 ∧ ¬ (255 : Int32) < c0)) (l_c1 : (¬ c1 < 0 ∧ ¬ (255 : Int32) < c1)) (hSt : St Z zc vfm vus vss) (hO : Old Z n0 h0) :
    CW l Z EL ({ cls := "com/example/hallstatt/hallstatt/InvalidValueExceptionWithinPinLaw", name := "mk", desc := "(III)Ljava/lang/String;" } : Jvm.MethodName) [(Jvm.Cond.code ({ cls := "com/example/hallstatt/hallstatt/InvalidValueExceptionWithinPinLaw", name := "mk", desc := "(III)Ljava/lang/String;" } : Jvm.MethodName) method_3_code (3 : Nat) (Option.some (Jvm.ClassFile.FieldType.object "java/lang/String")))] ({ frames := 4, cells := 6, slots := 12, locals := 66 } : Room) #[(.int n1), (.int c0), (.int c1)] h0 (Q_mk Z zc vfm vus vss n1 c0 c1 h0 n0) := by
  refine CW.of (L0 := #[vI n1, vI c0, vI c1]) (plainFor_of_name pn_9) (fun m => by first | (simp [entryFrame, mkF, argsToLocals, Value.category]; done) | rfl) ?_
  intro p e s m below meth c s₁ hx hby hml hret hlk hZ hown hnm X0 e0 hS0 hk0 CV0 hh0
  have hEL := hEL_ (a0 := a0) hw
  have hwS := hwS_ hw
  have N0 := Fr.nil n0
  have KP0 := Keep.refl h0 []
  have hSt_ := hSt
  obtain ⟨S_cs, n_cs, S_fm, r_fm, S_us, r_us, S_ss, r_ss⟩ := hSt_
  show Go p e below _ (s₁.setTop (mkF m 0 #[vI n1, vI c0, vI c1] []))
  refine Go.step (fun _ k => XS.iloadN X0.here hx rfl (hb hby d_method_3_code_0) rfl  k) ?_
  show Go p e below _ (s₁.setTop (mkF m 1 #[vI n1, vI c0, vI c1] [(.int n1)]))
  by_cases u0 : n1 = (0 : Int32)
  · skip
    refine Go.step (fun _ k => XS.ifNo X0.here hx rfl (hb hby d_method_3_code_1) rfl ((if0 _ _).trans (teq u0).2) k) ?_
    show Go p e below _ (s₁.setTop (mkF m 4 #[vI n1, vI c0, vI c1] []))
    obtain ⟨T_219, h_219, X_219, e_219, E_219, A_219, D_219, Un_219, st_219⟩ := newO X0 hx hZ hown (wd_4 hw) (wd_5 hw) (wd_6 hw) e0 (g := (mkF m 4 #[vI n1, vI c0, vI c1] [])) rfl (hb hby d_method_3_code_4) (by decide) (by decide)
    obtain ⟨b219, q_219⟩ : ∃ z, z = h0.size := ⟨_, rfl⟩
    rw [← q_219] at A_219 D_219 Un_219 st_219
    refine Go.step st_219 ?_
    have C_219 := CHr.ext E_219 CV0
    have CR_219 := CHr.trans (CHr.refl CV0) C_219
    have le_219 : h0.size ≤ h_219.size := E_219.1
    have KP_219 := KP0.ext E_219
    have O_219 := hO.ext E_219
    have ge_219 : h0.size ≤ b219 := Nat.le_of_eq q_219.symm
    have sz_b219 : h0.size ≤ b219 := Nat.le_trans (Nat.le_refl _) ge_219
    have g_b219 : n0 ≤ b219 := Nat.le_trans Z0 sz_b219
    have F_219_31 : Fld Z h_219 b219 "java/lang/String" "coder" "B" (.int (0 : Int32)) := D_219 (Or.inr (wd_31 hw)) (ty := .byte) pf_6
    have F_219_33 : Fld Z h_219 b219 "java/lang/String" "value" "[B" .null := D_219 (Or.inr (wd_33 hw)) (ty := (.array .byte)) pf_5
    have Sf_b219 := Safe.ext E_219 CV0 (Safe.new ge_219)
    show Go p e below _ (T_219.setTop (mkF m 7 #[vI n1, vI c0, vI c1] [(.ref b219)]))
    refine Go.step (fun _ k => XS.dup X_219.here hx rfl (hb hby d_method_3_code_7) rfl rfl k) ?_
    refine Go.step (fun _ k => XS.iconst X_219.here hx rfl (hb hby d_method_3_code_8) k) ?_
    show Go p e below _ (T_219.setTop (mkF m 9 #[vI n1, vI c0, vI c1] [(.int (0 : Int32)), (.ref b219), (.ref b219)]))
    obtain ⟨T_220, h_220, k_220, X_220, e_220, E_220, A_220, st_220⟩ := newP X_219 hx hZ (aty := .char) (wd_7 hw) e_219 (g := (mkF m 9 #[vI n1, vI c0, vI c1] [(.int (0 : Int32)), (.ref b219), (.ref b219)])) rfl (hb hby d_method_3_code_9) rfl (by decide) (cap := 0) (by decide) (by decide) (by decide) (by decide)
    obtain ⟨b220, q_220⟩ : ∃ z, z = h_219.size := ⟨_, rfl⟩
    rw [← q_220] at A_220 st_220
    refine Go.step st_220 ?_
    have C_220 := CHr.ext E_220 C_219.1
    have CR_220 := CHr.trans CR_219 C_220
    have le_220 : h_219.size ≤ h_220.size := E_220.1
    have KP_220 := KP_219.ext E_220
    have O_220 := O_219.ext E_220
    have ge_220 : h_219.size ≤ b220 := Nat.le_of_eq q_220.symm
    have sz_b220 : h0.size ≤ b220 := Nat.le_trans le_219 ge_220
    have g_b220 : n0 ≤ b220 := Nat.le_trans Z0 sz_b220
    have V_220 : Arv Z h_220 b220 k_220 .char (0 : Int32) [] (.int (0 : Int32)) := Arv.new A_220 (by decide)
    have Sf_b220 := Safe.ext E_220 C_219.1 (Safe.new ge_220)
    show Go p e below _ (T_220.setTop (mkF m 11 #[vI n1, vI c0, vI c1] [(.ref b220), (.ref b219), (.ref b219)]))
    have f221 : Exa Z h_220 b219 "java/lang/String" := (A_219.ext E_220)
    have f222 : Fld Z h_220 b219 "java/lang/String" "value" "[B" .null := (F_219_33.ext E_220)
    have f223 : Fld Z h_220 b219 "java/lang/String" "coder" "B" (.int (0 : Int32)) := (F_219_31.ext E_220)
    obtain ⟨v_224, T_224, L_224, X_224, hQ_224, hS_224, hZ_224, hown_224, C_224, st_224⟩ := goCW X_220 hx hZ (y := Y_33) hown hS0 (Nat.le_trans hk0 (Nat.le_trans le_219 le_220)) rfl (wd_8 hw) (wd_9 hw) (wd_10 hw) (by decide) (backOfSH (W := 1) (rm_init1e l Z a0 hw zc vfm vus vss (b219) (b220) (k_220) h_220 n0 (Nat.le_trans Z0 KP_220.1) f221 f222 f223 g_b219 V_220 hSt O_220) hZ (wd_10 hw) (wd_6 hw) (by decide) (by decide) hEL C_220.1) e_220 (g := (mkF m 11 #[vI n1, vI c0, vI c1] [(.ref b220), (.ref b219), (.ref b219)])) rfl (by rw [hml]; rfl) (a := b219) (argsL := [(.ref b220)]) (rest := [(.ref b219)]) rfl (lenOf pd_22 rfl) rfl (by show 2 * 0 + _ ≤ _; exact Nat.le_of_eq rfl) (hb hby d_method_3_code_11) (by decide) (by decide)
    obtain ⟨rfl, Nq_224, K_224, u0_224⟩ := hQ_224
    have N_224 := Fr.app N0 Nq_224
    have CR_224 := CHr.trans CR_220 C_224
    have le_224 : h_220.size ≤ T_224.heap.size := K_224.1
    have KP_224 := KP_220.trans K_224 (allS (Or.inr sz_b219) all0)
    have O_224 := O_220.keep K_224 (allS g_b219 all0)
    refine Go.step st_224 ?_
    show Go p e below _ (T_224.setTop (mkF m 14 #[vI n1, vI c0, vI c1] [(.ref b219)]))
    exact Go.retVW X_224 rfl hS_224 (Nat.le_refl _) hZ_224 hEL hh0 CR_224 hx hlk hret rfl (Or.inr (Or.inr (Or.inr (Or.inr ⟨rfl, rfl, rfl⟩)))) (hb hby d_method_3_code_14) (by decide) (by decide) (by exact ⟨b219, rfl, N_224, KP_224, sz_b219, (by rw [mks, if_pos u0]; exact u0_224)⟩)
  · skip
    refine Go.step (fun _ k => XS.ifYes X0.here hx rfl (pc0 := 1) (pc' := 15) rfl (hb hby d_method_3_code_1) rfl ((if0 _ _).trans (feq u0).2) (by decide) (by decide) k) ?_
    show Go p e below _ (s₁.setTop (mkF m 15 #[vI n1, vI c0, vI c1] []))
    refine Go.step (fun _ k => XS.iloadN X0.here hx rfl (hb hby d_method_3_code_15) rfl  k) ?_
    refine Go.step (fun _ k => XS.iconst X0.here hx rfl (hb hby d_method_3_code_16) k) ?_
    show Go p e below _ (s₁.setTop (mkF m 17 #[vI n1, vI c0, vI c1] [(.int (1 : Int32)), (.int n1)]))
    by_cases u1 : n1 = (1 : Int32)
    · skip
      refine Go.step (fun _ k => XS.icmpNo X0.here hx rfl (hb hby d_method_3_code_17) rfl (teq u1).2 k) ?_
      show Go p e below _ (s₁.setTop (mkF m 20 #[vI n1, vI c0, vI c1] []))
      refine Go.step (fun _ k => XS.iloadN X0.here hx rfl (hb hby d_method_3_code_20) rfl  k) ?_
      show Go p e below _ (s₁.setTop (mkF m 21 #[vI n1, vI c0, vI c1] [(.int c0)]))
      refine Go.step (fun _ k => XS.i2c X0.here hx rfl (hb hby d_method_3_code_21) rfl k) ?_
      show Go p e below _ (s₁.setTop (mkF m 22 #[vI n1, vI c0, vI c1] [(.int (nar .char c0))]))
      refine own_top (congrArg Value.int (show (nar .char c0) = c0 from nar_lat l_c0)) ?_
      show Go p e below _ (s₁.setTop (mkF m 22 #[vI n1, vI c0, vI c1] [(.int c0)]))
      obtain ⟨v_225, T_225, L_225, X_225, hQ_225, st_225⟩ := goS X0 hx hZ (y := Y_34) hown (wd_259 hw) (wd_260 hw) (wd_6 hw) (wd_261 hw) (by decide) (backOf (W := 0) (rm_valueOf l Z a0 hw zc vfm vus vss (c0) h0 n0 (Nat.le_trans Z0 KP0.1) l_c0 hSt hO) hZ (wd_261 hw) (wd_6 hw) (by decide) (by decide)) e0 (g := (mkF m 22 #[vI n1, vI c0, vI c1] [(.int c0)])) rfl (by rw [hml]; rfl) (argsL := [(.int c0)]) (rest := []) rfl (lenOf pd_23 rfl) rfl (by show 2 * 0 + _ ≤ _; exact Nat.le_of_eq rfl) (hb hby d_method_3_code_22) (by decide) (by decide)
      obtain ⟨r_225, rfl, Nq_225, K_225, u0_225, u1_225⟩ := hQ_225
      have N_225 := Fr.app N0 Nq_225
      have C_225 := CHr.keep K_225 sf0 CV0
      have CR_225 := CHr.trans (CHr.refl CV0) C_225
      have le_225 : h0.size ≤ T_225.heap.size := K_225.1
      have KP_225 := KP0.trans K_225 all0
      have O_225 := hO.keep K_225 all0
      have sz_r_225 : h0.size ≤ r_225 := Nat.le_trans (Nat.le_refl _) u0_225
      have g_r_225 : n0 ≤ r_225 := Nat.le_trans Z0 sz_r_225
      have Sf_r_225 := Safe.keep K_225 sf0 CV0 (Safe.new u0_225)
      refine Go.step st_225 ?_
      show Go p e below _ (T_225.setTop (mkF m 25 #[vI n1, vI c0, vI c1] [(.ref r_225)]))
      exact Go.retVW X_225 rfl hS0 (Nat.le_trans hk0 le_225) hZ hEL hh0 CR_225 hx hlk hret rfl (Or.inr (Or.inr (Or.inr (Or.inr ⟨rfl, rfl, rfl⟩)))) (hb hby d_method_3_code_25) (by decide) (by decide) (by exact ⟨r_225, rfl, N_225, KP_225, sz_r_225, (by rw [mks, if_neg u0, if_pos u1]; exact u1_225)⟩)
    · skip
      refine Go.step (fun _ k => XS.icmpYes X0.here hx rfl (pc0 := 17) (pc' := 26) rfl (hb hby d_method_3_code_17) rfl (feq u1).2 (by decide) (by decide) k) ?_
      show Go p e below _ (s₁.setTop (mkF m 26 #[vI n1, vI c0, vI c1] []))
      obtain ⟨T_226, h_226, X_226, e_226, E_226, A_226, D_226, Un_226, st_226⟩ := newO X0 hx hZ hown (wd_4 hw) (wd_5 hw) (wd_6 hw) e0 (g := (mkF m 26 #[vI n1, vI c0, vI c1] [])) rfl (hb hby d_method_3_code_26) (by decide) (by decide)
      obtain ⟨b226, q_226⟩ : ∃ z, z = h0.size := ⟨_, rfl⟩
      rw [← q_226] at A_226 D_226 Un_226 st_226
      refine Go.step st_226 ?_
      have C_226 := CHr.ext E_226 CV0
      have CR_226 := CHr.trans (CHr.refl CV0) C_226
      have le_226 : h0.size ≤ h_226.size := E_226.1
      have KP_226 := KP0.ext E_226
      have O_226 := hO.ext E_226
      have ge_226 : h0.size ≤ b226 := Nat.le_of_eq q_226.symm
      have sz_b226 : h0.size ≤ b226 := Nat.le_trans (Nat.le_refl _) ge_226
      have g_b226 : n0 ≤ b226 := Nat.le_trans Z0 sz_b226
      have F_226_31 : Fld Z h_226 b226 "java/lang/String" "coder" "B" (.int (0 : Int32)) := D_226 (Or.inr (wd_31 hw)) (ty := .byte) pf_6
      have F_226_33 : Fld Z h_226 b226 "java/lang/String" "value" "[B" .null := D_226 (Or.inr (wd_33 hw)) (ty := (.array .byte)) pf_5
      have Sf_b226 := Safe.ext E_226 CV0 (Safe.new ge_226)
      show Go p e below _ (T_226.setTop (mkF m 29 #[vI n1, vI c0, vI c1] [(.ref b226)]))
      refine Go.step (fun _ k => XS.dup X_226.here hx rfl (hb hby d_method_3_code_29) rfl rfl k) ?_
      refine Go.step (fun _ k => XS.iconst X_226.here hx rfl (hb hby d_method_3_code_30) k) ?_
      show Go p e below _ (T_226.setTop (mkF m 31 #[vI n1, vI c0, vI c1] [(.int (2 : Int32)), (.ref b226), (.ref b226)]))
      obtain ⟨T_227, h_227, k_227, X_227, e_227, E_227, A_227, st_227⟩ := newP X_226 hx hZ (aty := .char) (wd_7 hw) e_226 (g := (mkF m 31 #[vI n1, vI c0, vI c1] [(.int (2 : Int32)), (.ref b226), (.ref b226)])) rfl (hb hby d_method_3_code_31) rfl (by decide) (cap := 2) (by decide) (by decide) (by decide) (by decide)
      obtain ⟨b227, q_227⟩ : ∃ z, z = h_226.size := ⟨_, rfl⟩
      rw [← q_227] at A_227 st_227
      refine Go.step st_227 ?_
      have C_227 := CHr.ext E_227 C_226.1
      have CR_227 := CHr.trans CR_226 C_227
      have le_227 : h_226.size ≤ h_227.size := E_227.1
      have KP_227 := KP_226.ext E_227
      have O_227 := O_226.ext E_227
      have ge_227 : h_226.size ≤ b227 := Nat.le_of_eq q_227.symm
      have sz_b227 : h0.size ≤ b227 := Nat.le_trans le_226 ge_227
      have g_b227 : n0 ≤ b227 := Nat.le_trans Z0 sz_b227
      have V_227 : Arv Z h_227 b227 k_227 .char (2 : Int32) [(.int (0 : Int32)), (.int (0 : Int32))] (.int (0 : Int32)) := (Arv.new A_227 (by decide)).pad (pad_rep [] (.int (0 : Int32)) 2)
      have Sf_b227 := Safe.ext E_227 C_226.1 (Safe.new ge_227)
      show Go p e below _ (T_227.setTop (mkF m 33 #[vI n1, vI c0, vI c1] [(.ref b227), (.ref b226), (.ref b226)]))
      refine Go.step (fun _ k => XS.dup X_227.here hx rfl (hb hby d_method_3_code_33) rfl rfl k) ?_
      refine Go.step (fun _ k => XS.iconst X_227.here hx rfl (hb hby d_method_3_code_34) k) ?_
      refine Go.step (fun _ k => XS.iloadN X_227.here hx rfl (hb hby d_method_3_code_35) rfl  k) ?_
      show Go p e below _ (T_227.setTop (mkF m 36 #[vI n1, vI c0, vI c1] [(.int c0), (.int (0 : Int32)), (.ref b227), (.ref b227), (.ref b226), (.ref b226)]))
      refine Go.step (fun _ k => XS.i2c X_227.here hx rfl (hb hby d_method_3_code_36) rfl k) ?_
      show Go p e below _ (T_227.setTop (mkF m 37 #[vI n1, vI c0, vI c1] [(.int (nar .char c0)), (.int (0 : Int32)), (.ref b227), (.ref b227), (.ref b226), (.ref b226)]))
      refine own_top (congrArg Value.int (show (nar .char c0) = c0 from nar_lat l_c0)) ?_
      show Go p e below _ (T_227.setTop (mkF m 37 #[vI n1, vI c0, vI c1] [(.int c0), (.int (0 : Int32)), (.ref b227), (.ref b227), (.ref b226), (.ref b226)]))
      have cp229 := V_227
      obtain ⟨cl_228, Ar_228, ck_228, Sz_228, Ng_228, Hs_228, Gs_228⟩ := cp229
      have hin_228 : ¬ ((0 : Int32) < 0 ∨ cl_228.slots.size ≤ ((0 : Int32)).toNatClampNeg) := inb_of Sz_228 ⟨by decide, by decide⟩
      obtain ⟨T_228, h_228, X_228, e_228, W_228, st_228⟩ := stC X_227 hx hZ e_227 Ar_228 (j := (0 : Int32)) hin_228 (g := (mkF m 37 #[vI n1, vI c0, vI c1] [(.int c0), (.int (0 : Int32)), (.ref b227), (.ref b227), (.ref b226), (.ref b226)])) rfl rfl (hb hby d_method_3_code_37)
      refine Go.step st_228 ?_
      have N_228 := Fr.snoc X_228 N0 g_b227
      have C_228 := CHr.wr W_228 (Safe.arv hZ.alike V_227 (by decide)) C_227.1
      have CR_228 := CHr.trans CR_227 C_228
      have le_228 : h_227.size ≤ h_228.size := Nat.le_of_eq W_228.size.symm
      have KP_228 := KP_227.wr W_228 (Or.inr sz_b227)
      have O_228 := O_227.wr W_228 g_b227
      have V_228 : Arv Z h_228 b227 k_227 .char (2 : Int32) [(.int c0), (.int (0 : Int32))] (.int (0 : Int32)) := by
        have q := Arv.set Ar_228 ck_228 Sz_228 Ng_228 Hs_228 Gs_228 (fits_nar_char _) W_228 0 rfl (Nat.le_of_ble_eq_true rfl)
        rw [nar_lat l_c0] at q; exact q
      show Go p e below _ (T_228.setTop (mkF m 38 #[vI n1, vI c0, vI c1] [(.ref b227), (.ref b226), (.ref b226)]))
      refine Go.step (fun _ k => XS.dup X_228.here hx rfl (hb hby d_method_3_code_38) rfl rfl k) ?_
      refine Go.step (fun _ k => XS.iconst X_228.here hx rfl (hb hby d_method_3_code_39) k) ?_
      refine Go.step (fun _ k => XS.iloadN X_228.here hx rfl (hb hby d_method_3_code_40) rfl  k) ?_
      show Go p e below _ (T_228.setTop (mkF m 41 #[vI n1, vI c0, vI c1] [(.int c1), (.int (1 : Int32)), (.ref b227), (.ref b227), (.ref b226), (.ref b226)]))
      refine Go.step (fun _ k => XS.i2c X_228.here hx rfl (hb hby d_method_3_code_41) rfl k) ?_
      show Go p e below _ (T_228.setTop (mkF m 42 #[vI n1, vI c0, vI c1] [(.int (nar .char c1)), (.int (1 : Int32)), (.ref b227), (.ref b227), (.ref b226), (.ref b226)]))
      refine own_top (congrArg Value.int (show (nar .char c1) = c1 from nar_lat l_c1)) ?_
      show Go p e below _ (T_228.setTop (mkF m 42 #[vI n1, vI c0, vI c1] [(.int c1), (.int (1 : Int32)), (.ref b227), (.ref b227), (.ref b226), (.ref b226)]))
      have cp231 := V_228
      obtain ⟨cl_230, Ar_230, ck_230, Sz_230, Ng_230, Hs_230, Gs_230⟩ := cp231
      have hin_230 : ¬ ((1 : Int32) < 0 ∨ cl_230.slots.size ≤ ((1 : Int32)).toNatClampNeg) := inb_of Sz_230 ⟨by decide, by decide⟩
      obtain ⟨T_230, h_230, X_230, e_230, W_230, st_230⟩ := stC X_228 hx hZ e_228 Ar_230 (j := (1 : Int32)) hin_230 (g := (mkF m 42 #[vI n1, vI c0, vI c1] [(.int c1), (.int (1 : Int32)), (.ref b227), (.ref b227), (.ref b226), (.ref b226)])) rfl rfl (hb hby d_method_3_code_42)
      refine Go.step st_230 ?_
      have N_230 := Fr.snoc X_230 N_228 g_b227
      have C_230 := CHr.wr W_230 (Safe.arv hZ.alike V_228 (by decide)) C_228.1
      have CR_230 := CHr.trans CR_228 C_230
      have le_230 : h_228.size ≤ h_230.size := Nat.le_of_eq W_230.size.symm
      have KP_230 := KP_228.wr W_230 (Or.inr sz_b227)
      have O_230 := O_228.wr W_230 g_b227
      have V_230 : Arv Z h_230 b227 k_227 .char (2 : Int32) [(.int c0), (.int c1)] (.int (0 : Int32)) := by
        have q := Arv.set Ar_230 ck_230 Sz_230 Ng_230 Hs_230 Gs_230 (fits_nar_char _) W_230 1 rfl (Nat.le_of_ble_eq_true rfl)
        rw [nar_lat l_c1] at q; exact q
      show Go p e below _ (T_230.setTop (mkF m 43 #[vI n1, vI c0, vI c1] [(.ref b227), (.ref b226), (.ref b226)]))
      have f232 : Exa Z h_230 b226 "java/lang/String" := (((A_226.ext E_227).wr W_228).wr W_230)
      have f233 : Fld Z h_230 b226 "java/lang/String" "value" "[B" .null := (((F_226_33.ext E_227).other W_228 (Or.inl (Nat.ne_of_lt (Nat.lt_of_lt_of_le A_226.lt (Nat.le_trans (Nat.le_refl _) ge_227))))).other W_230 (Or.inl (Nat.ne_of_lt (Nat.lt_of_lt_of_le A_226.lt (Nat.le_trans (Nat.le_refl _) ge_227)))))
      have f234 : Fld Z h_230 b226 "java/lang/String" "coder" "B" (.int (0 : Int32)) := (((F_226_31.ext E_227).other W_228 (Or.inl (Nat.ne_of_lt (Nat.lt_of_lt_of_le A_226.lt (Nat.le_trans (Nat.le_refl _) ge_227))))).other W_230 (Or.inl (Nat.ne_of_lt (Nat.lt_of_lt_of_le A_226.lt (Nat.le_trans (Nat.le_refl _) ge_227)))))
      have hp235 : ∀ c ∈ ([c0, c1] : List Int32), ¬ c < 0 ∧ ¬ (255 : Int32) < c := (latc l_c0 (latc l_c1 lat0))
      obtain ⟨v_236, T_236, L_236, X_236, hQ_236, st_236⟩ := goC X_230 hx hZ (y := Y_33) hown rfl (wd_8 hw) (wd_9 hw) (wd_10 hw) (by decide) (StrChars.Road.backV (W := 1) (s := s.setVm s.vm) hZ (sw_words hw) (kI := 4) (wd_5 hw) (cs := ([c0, c1] : List Int32)) (bs := ([c0, c1] : List Int32).map (fun c => c.toInt8.toInt32)) (n := 2) g_b226 (Nat.le_trans Z0 KP_230.1) f232 f233 f234 V_230 (S_cs.ext O_230.2) n_cs rfl rfl (by decide) (by decide) hp235 rfl (by decide) (by decide)) e_230 (g := (mkF m 43 #[vI n1, vI c0, vI c1] [(.ref b227), (.ref b226), (.ref b226)])) rfl (by rw [hml]; rfl) (a := b226) (argsL := [(.ref b227)]) (rest := [(.ref b226)]) rfl (lenOf pd_22 rfl) rfl (by show 2 * 0 + _ ≤ _; exact Nat.le_of_eq rfl) (hb hby d_method_3_code_43) (by decide) (by decide)
      obtain ⟨rfl, Nq_236, K_236, Ex_236, Fc_236, t_236, kb_236, -, gt_236, -, Fv_236, Av_236⟩ := hQ_236
      have N_236 := Fr.app N_230 Nq_236
      have C_236 := CHr.keep K_236 (sfS (CHr.safe (CHr.trans (CHr.trans C_227 C_228) C_230) A_226.lt Sf_b226) sf0) C_230.1
      have CR_236 := CHr.trans CR_230 C_236
      have le_236 : h_230.size ≤ T_236.heap.size := K_236.1
      have KP_236 := KP_230.trans K_236 (allS (Or.inr sz_b226) all0)
      have O_236 := O_230.keep K_236 (allS g_b226 all0)
      have Sx_236 : Str Z (T_236.heap).size (T_236.heap) b226 ([c0, c1] : List Int32) := ⟨t_236, kb_236, Ex_236.lt, Av_236.lt, Ex_236, Fv_236, Fc_236, Av_236, hp235, Nat.le_of_ble_eq_true rfl⟩
      refine Go.step st_236 ?_
      show Go p e below _ (T_236.setTop (mkF m 46 #[vI n1, vI c0, vI c1] [(.ref b226)]))
      exact Go.retVW X_236 rfl hS0 (Nat.le_trans hk0 (Nat.le_trans le_226 (Nat.le_trans le_227 (Nat.le_trans le_228 (Nat.le_trans le_230 le_236))))) hZ hEL hh0 CR_236 hx hlk hret rfl (Or.inr (Or.inr (Or.inr (Or.inr ⟨rfl, rfl, rfl⟩)))) (hb hby d_method_3_code_46) (by decide) (by decide) (by exact ⟨b226, rfl, N_236, KP_236, sz_b226, (by rw [mks, if_neg u0, if_neg u1]; exact Sx_236)⟩)
--@E
theorem rem3 (x : Int32) : (x &&& (255 : Int32)) % (3 : Int32) = 0 ∨ (x &&& (255 : Int32)) % (3 : Int32) = 1 ∨ (x &&& (255 : Int32)) % (3 : Int32) = 2 := by
  have h := c_mask x 255 8 (by decide) (by decide)
  have r := (c_irem (x &&& (255 : Int32)) 3 3 (by decide)).1 (by omega)
  have q : ((x &&& (255 : Int32)) % (3 : Int32)).toInt = 0 ∨ ((x &&& (255 : Int32)) % (3 : Int32)).toInt = 1 ∨ ((x &&& (255 : Int32)) % (3 : Int32)).toInt = 2 := by omega
  rcases q with q | q | q
  · exact Or.inl (Int32.toInt_inj.mp q)
  · exact Or.inr (Or.inl (Int32.toInt_inj.mp q))
  · exact Or.inr (Or.inr (Int32.toInt_inj.mp q))
theorem mks_len {n c0 c1 : Int32} (h : n = 0 ∨ n = 1 ∨ n = 2) : Int32.ofNat (mks n c0 c1).length = n ∧ (mks n c0 c1).length ≤ 2 := by
  rcases h with rfl | rfl | rfl
  · exact ⟨rfl, Nat.le_of_ble_eq_true rfl⟩
  · exact ⟨rfl, Nat.le_of_ble_eq_true rfl⟩
  · exact ⟨rfl, Nat.le_of_ble_eq_true rfl⟩
theorem len32 {n t : Int32} {ps ds : List Int32} (hp : Int32.ofNat ps.length = n) (hd : Int32.ofNat ds.length = t) : Int32.ofNat ((ps ++ [(46 : Int32)]) ++ ds).length = n + (1 : Int32) + t := by
  rw [res_len, ← ofn_add, ← ofn_add, hp, hd]; rfl
--@C law
def Q_law (Z : State) (zc : Int32) (vfm : Value) (vus : Value) (vss : Value) (q0 : Int32) (q1 : Int32) (q2 : Int32) (h0 : Heap) (n0 : Nat) (v : Option Value) (h : Heap) (L : List Loc) : Prop := v = some (.int (1 : Int32)) ∧ Fr n0 L
set_option maxRecDepth 65536 in
set_option maxHeartbeats 40000000 in
theorem rm_law (l : Launch) (Z : State) (a0 : Array Value) (hw : ∀ d ∈ tables_1, d.before a0 Z = true) (zc : Int32) (vfm : Value) (vus : Value) (vss : Value) (q0 : Int32) (q1 : Int32) (q2 : Int32) (h0 : Heap) (n0 : Nat) (Z0 : n0 ≤ h0.size) (hl : (l.stackTraces = true)) (hSt : St Z zc vfm vus vss) (hO : Old Z n0 h0) :
    CKL l Z EL x (Jvm.Cond.code x code maxLocals ret :: tables_1) room_1 #[(.int q0), (.int q1), (.int q2)] h0 (Q_law Z zc vfm vus vss q0 q1 q2 h0 n0) := by
  refine CKL.of (L0 := #[vI q0, vI q1, vI q2, vU, vU, vU, vU, vU, vU, vU]) (plainFor_of_name pn_9) (fun m => by first | (simp [entryFrame, mkF, argsToLocals, Value.category, maxLocals]; done) | rfl) ?_
  intro p e s m below meth c s₁ hx hby hml hret hlk hZ hown hnm X0 e0 hS0 hk0 CV0 hh0 hTK hFK
  have hEL := hEL_ (a0 := a0) hw
  have hwS := hwS_ hw
  have N0 := Fr.nil n0
  have KP0 := Keep.refl h0 []
  have hSt_ := hSt
  obtain ⟨S_cs, n_cs, S_fm, r_fm, S_us, r_us, S_ss, r_ss⟩ := hSt_
  show Go p e below _ (s₁.setTop (mkF m 0 #[vI q0, vI q1, vI q2, vU, vU, vU, vU, vU, vU, vU] []))
  refine Go.step (fun _ k => XS.iloadN X0.here hx rfl (hb hby at_0) rfl  k) ?_
  refine Go.step (fun _ k => XS.sipush X0.here hx rfl (hb hby at_1) k) ?_
  show Go p e below _ (s₁.setTop (mkF m 4 #[vI q0, vI q1, vI q2, vU, vU, vU, vU, vU, vU, vU] [(.int (255 : Int32)), (.int q2)]))
  refine Go.step (fun _ k => XS.iand X0.here hx rfl (hb hby at_4) rfl k) ?_
  show Go p e below _ (s₁.setTop (mkF m 5 #[vI q0, vI q1, vI q2, vU, vU, vU, vU, vU, vU, vU] [(.int (q2 &&& (255 : Int32)))]))
  refine Go.step (fun _ k => XS.iconst X0.here hx rfl (hb hby at_5) k) ?_
  show Go p e below _ (s₁.setTop (mkF m 6 #[vI q0, vI q1, vI q2, vU, vU, vU, vU, vU, vU, vU] [(.int (3 : Int32)), (.int (q2 &&& (255 : Int32)))]))
  refine Go.step (fun _ k => iremM X0 hx rfl (hb hby at_6) rfl (by decide) k) ?_
  show Go p e below _ (s₁.setTop (mkF m 7 #[vI q0, vI q1, vI q2, vU, vU, vU, vU, vU, vU, vU] [(.int ((q2 &&& (255 : Int32)) % (3 : Int32)))]))
  refine Go.step (fun _ k => XS.istoreN X0.here hx rfl (hb hby at_7) rfl (l' := #[vI q0, vI q1, vI q2, vI ((q2 &&& (255 : Int32)) % (3 : Int32)), vU, vU, vU, vU, vU, vU]) rfl k) ?_
  show Go p e below _ (s₁.setTop (mkF m 8 #[vI q0, vI q1, vI q2, vI ((q2 &&& (255 : Int32)) % (3 : Int32)), vU, vU, vU, vU, vU, vU] []))
  obtain ⟨pl, h_pl⟩ : ∃ z, z = ((q2 &&& (255 : Int32)) % (3 : Int32)) := ⟨_, rfl⟩
  rw [← h_pl]
  show Go p e below _ (s₁.setTop (mkF m 8 #[vI q0, vI q1, vI q2, vI pl, vU, vU, vU, vU, vU, vU] []))
  have h_p3 : pl = 0 ∨ pl = 1 ∨ pl = 2 := by rw [h_pl]; exact rem3 _
  show Go p e below _ (s₁.setTop (mkF m 8 #[vI q0, vI q1, vI q2, vI pl, vU, vU, vU, vU, vU, vU] []))
  refine Go.step (fun _ k => XS.iloadN X0.here hx rfl (hb hby at_8) rfl  k) ?_
  refine Go.step (fun _ k => XS.bipush X0.here hx rfl (hb hby at_9) k) ?_
  show Go p e below _ (s₁.setTop (mkF m 11 #[vI q0, vI q1, vI q2, vI pl, vU, vU, vU, vU, vU, vU] [(.int (8 : Int32)), (.int q2)]))
  refine Go.step (fun _ k => XS.iushr X0.here hx rfl (hb hby at_11) rfl k) ?_
  show Go p e below _ (s₁.setTop (mkF m 12 #[vI q0, vI q1, vI q2, vI pl, vU, vU, vU, vU, vU, vU] [(.int ((q2.toUInt32 >>> ((8 : Int32) &&& 31).toUInt32).toInt32))]))
  refine Go.step (fun _ k => XS.sipush X0.here hx rfl (hb hby at_12) k) ?_
  show Go p e below _ (s₁.setTop (mkF m 15 #[vI q0, vI q1, vI q2, vI pl, vU, vU, vU, vU, vU, vU] [(.int (255 : Int32)), (.int ((q2.toUInt32 >>> ((8 : Int32) &&& 31).toUInt32).toInt32))]))
  refine Go.step (fun _ k => XS.iand X0.here hx rfl (hb hby at_15) rfl k) ?_
  show Go p e below _ (s₁.setTop (mkF m 16 #[vI q0, vI q1, vI q2, vI pl, vU, vU, vU, vU, vU, vU] [(.int (((q2.toUInt32 >>> ((8 : Int32) &&& 31).toUInt32).toInt32) &&& (255 : Int32)))]))
  refine Go.step (fun _ k => XS.iconst X0.here hx rfl (hb hby at_16) k) ?_
  show Go p e below _ (s₁.setTop (mkF m 17 #[vI q0, vI q1, vI q2, vI pl, vU, vU, vU, vU, vU, vU] [(.int (3 : Int32)), (.int (((q2.toUInt32 >>> ((8 : Int32) &&& 31).toUInt32).toInt32) &&& (255 : Int32)))]))
  refine Go.step (fun _ k => iremM X0 hx rfl (hb hby at_17) rfl (by decide) k) ?_
  show Go p e below _ (s₁.setTop (mkF m 18 #[vI q0, vI q1, vI q2, vI pl, vU, vU, vU, vU, vU, vU] [(.int ((((q2.toUInt32 >>> ((8 : Int32) &&& 31).toUInt32).toInt32) &&& (255 : Int32)) % (3 : Int32)))]))
  refine Go.step (fun _ k => XS.istore X0.here hx rfl (hb hby at_18) rfl (l' := #[vI q0, vI q1, vI q2, vI pl, vI ((((q2.toUInt32 >>> ((8 : Int32) &&& 31).toUInt32).toInt32) &&& (255 : Int32)) % (3 : Int32)), vU, vU, vU, vU, vU]) rfl k) ?_
  show Go p e below _ (s₁.setTop (mkF m 20 #[vI q0, vI q1, vI q2, vI pl, vI ((((q2.toUInt32 >>> ((8 : Int32) &&& 31).toUInt32).toInt32) &&& (255 : Int32)) % (3 : Int32)), vU, vU, vU, vU, vU] []))
  obtain ⟨dl, h_dl⟩ : ∃ z, z = ((((q2.toUInt32 >>> ((8 : Int32) &&& 31).toUInt32).toInt32) &&& (255 : Int32)) % (3 : Int32)) := ⟨_, rfl⟩
  rw [← h_dl]
  show Go p e below _ (s₁.setTop (mkF m 20 #[vI q0, vI q1, vI q2, vI pl, vI dl, vU, vU, vU, vU, vU] []))
  have h_d3 : dl = 0 ∨ dl = 1 ∨ dl = 2 := by rw [h_dl]; exact rem3 _
  show Go p e below _ (s₁.setTop (mkF m 20 #[vI q0, vI q1, vI q2, vI pl, vI dl, vU, vU, vU, vU, vU] []))
  refine Go.step (fun _ k => XS.iloadN X0.here hx rfl (hb hby at_20) rfl  k) ?_
  refine Go.step (fun _ k => XS.iloadN X0.here hx rfl (hb hby at_21) rfl  k) ?_
  refine Go.step (fun _ k => XS.sipush X0.here hx rfl (hb hby at_22) k) ?_
  show Go p e below _ (s₁.setTop (mkF m 25 #[vI q0, vI q1, vI q2, vI pl, vI dl, vU, vU, vU, vU, vU] [(.int (255 : Int32)), (.int q0), (.int pl)]))
  refine Go.step (fun _ k => XS.iand X0.here hx rfl (hb hby at_25) rfl k) ?_
  show Go p e below _ (s₁.setTop (mkF m 26 #[vI q0, vI q1, vI q2, vI pl, vI dl, vU, vU, vU, vU, vU] [(.int (q0 &&& (255 : Int32))), (.int pl)]))
  obtain ⟨c0, h_c0⟩ : ∃ z, z = (q0 &&& (255 : Int32)) := ⟨_, rfl⟩
  rw [← h_c0]
  show Go p e below _ (s₁.setTop (mkF m 26 #[vI q0, vI q1, vI q2, vI pl, vI dl, vU, vU, vU, vU, vU] [(.int c0), (.int pl)]))
  have l_c0 : ¬ c0 < 0 ∧ ¬ (255 : Int32) < c0 := by rw [h_c0]; exact lat255 _
  show Go p e below _ (s₁.setTop (mkF m 26 #[vI q0, vI q1, vI q2, vI pl, vI dl, vU, vU, vU, vU, vU] [(.int c0), (.int pl)]))
  refine Go.step (fun _ k => XS.iloadN X0.here hx rfl (hb hby at_26) rfl  k) ?_
  refine Go.step (fun _ k => XS.bipush X0.here hx rfl (hb hby at_27) k) ?_
  show Go p e below _ (s₁.setTop (mkF m 29 #[vI q0, vI q1, vI q2, vI pl, vI dl, vU, vU, vU, vU, vU] [(.int (8 : Int32)), (.int q0), (.int c0), (.int pl)]))
  refine Go.step (fun _ k => XS.iushr X0.here hx rfl (hb hby at_29) rfl k) ?_
  show Go p e below _ (s₁.setTop (mkF m 30 #[vI q0, vI q1, vI q2, vI pl, vI dl, vU, vU, vU, vU, vU] [(.int ((q0.toUInt32 >>> ((8 : Int32) &&& 31).toUInt32).toInt32)), (.int c0), (.int pl)]))
  refine Go.step (fun _ k => XS.sipush X0.here hx rfl (hb hby at_30) k) ?_
  show Go p e below _ (s₁.setTop (mkF m 33 #[vI q0, vI q1, vI q2, vI pl, vI dl, vU, vU, vU, vU, vU] [(.int (255 : Int32)), (.int ((q0.toUInt32 >>> ((8 : Int32) &&& 31).toUInt32).toInt32)), (.int c0), (.int pl)]))
  refine Go.step (fun _ k => XS.iand X0.here hx rfl (hb hby at_33) rfl k) ?_
  show Go p e below _ (s₁.setTop (mkF m 34 #[vI q0, vI q1, vI q2, vI pl, vI dl, vU, vU, vU, vU, vU] [(.int (((q0.toUInt32 >>> ((8 : Int32) &&& 31).toUInt32).toInt32) &&& (255 : Int32))), (.int c0), (.int pl)]))
  obtain ⟨c1, h_c1⟩ : ∃ z, z = (((q0.toUInt32 >>> ((8 : Int32) &&& 31).toUInt32).toInt32) &&& (255 : Int32)) := ⟨_, rfl⟩
  rw [← h_c1]
  show Go p e below _ (s₁.setTop (mkF m 34 #[vI q0, vI q1, vI q2, vI pl, vI dl, vU, vU, vU, vU, vU] [(.int c1), (.int c0), (.int pl)]))
  have l_c1 : ¬ c1 < 0 ∧ ¬ (255 : Int32) < c1 := by rw [h_c1]; exact lat255 _
  show Go p e below _ (s₁.setTop (mkF m 34 #[vI q0, vI q1, vI q2, vI pl, vI dl, vU, vU, vU, vU, vU] [(.int c1), (.int c0), (.int pl)]))
  obtain ⟨v_237, T_237, L_237, X_237, hQ_237, hS_237, hZ_237, hown_237, C_237, st_237⟩ := goSW X0 hx hZ (y := Y_35) hown hS0 hk0 (wd_0 hw) (wd_1 hw) (wd_2 hw) (wd_3 hw) (by decide) (backOfSH (W := 0) (rm_mk l Z a0 hw zc vfm vus vss (pl) (c0) (c1) h0 n0 (Nat.le_trans Z0 KP0.1) l_c0 l_c1 hSt hO) hZ (wd_3 hw) (wd_2 hw) (by decide) (by decide) hEL CV0) e0 (g := (mkF m 34 #[vI q0, vI q1, vI q2, vI pl, vI dl, vU, vU, vU, vU, vU] [(.int c1), (.int c0), (.int pl)])) rfl (by rw [hml]; rfl) (argsL := [(.int pl), (.int c0), (.int c1)]) (rest := []) rfl (lenOf pd_24 rfl) rfl (by show 2 * 0 + _ ≤ _; exact Nat.le_of_eq rfl) (hb hby at_34) (by decide) (by decide)
  obtain ⟨r_237, rfl, Nq_237, K_237, u0_237, u1_237⟩ := hQ_237
  have N_237 := Fr.app N0 Nq_237
  have CR_237 := CHr.trans (CHr.refl CV0) C_237
  have le_237 : h0.size ≤ T_237.heap.size := K_237.1
  have KP_237 := KP0.trans K_237 all0
  have O_237 := hO.keep K_237 all0
  have sz_r_237 : h0.size ≤ r_237 := Nat.le_trans (Nat.le_refl _) u0_237
  have g_r_237 : n0 ≤ r_237 := Nat.le_trans Z0 sz_r_237
  refine Go.step st_237 ?_
  show Go p e below _ (T_237.setTop (mkF m 37 #[vI q0, vI q1, vI q2, vI pl, vI dl, vU, vU, vU, vU, vU] [(.ref r_237)]))
  refine Go.step (fun _ k => XS.astore X_237.here hx rfl (hb hby at_37) rfl rfl (l' := #[vI q0, vI q1, vI q2, vI pl, vI dl, vR r_237, vU, vU, vU, vU]) rfl k) ?_
  show Go p e below _ (T_237.setTop (mkF m 39 #[vI q0, vI q1, vI q2, vI pl, vI dl, vR r_237, vU, vU, vU, vU] []))
  refine Go.step (fun _ k => XS.iload X_237.here hx rfl (hb hby at_39) rfl  k) ?_
  refine Go.step (fun _ k => XS.iloadN X_237.here hx rfl (hb hby at_41) rfl  k) ?_
  refine Go.step (fun _ k => XS.sipush X_237.here hx rfl (hb hby at_42) k) ?_
  show Go p e below _ (T_237.setTop (mkF m 45 #[vI q0, vI q1, vI q2, vI pl, vI dl, vR r_237, vU, vU, vU, vU] [(.int (255 : Int32)), (.int q1), (.int dl)]))
  refine Go.step (fun _ k => XS.iand X_237.here hx rfl (hb hby at_45) rfl k) ?_
  show Go p e below _ (T_237.setTop (mkF m 46 #[vI q0, vI q1, vI q2, vI pl, vI dl, vR r_237, vU, vU, vU, vU] [(.int (q1 &&& (255 : Int32))), (.int dl)]))
  obtain ⟨d0, h_d0⟩ : ∃ z, z = (q1 &&& (255 : Int32)) := ⟨_, rfl⟩
  rw [← h_d0]
  show Go p e below _ (T_237.setTop (mkF m 46 #[vI q0, vI q1, vI q2, vI pl, vI dl, vR r_237, vU, vU, vU, vU] [(.int d0), (.int dl)]))
  have l_d0 : ¬ d0 < 0 ∧ ¬ (255 : Int32) < d0 := by rw [h_d0]; exact lat255 _
  show Go p e below _ (T_237.setTop (mkF m 46 #[vI q0, vI q1, vI q2, vI pl, vI dl, vR r_237, vU, vU, vU, vU] [(.int d0), (.int dl)]))
  refine Go.step (fun _ k => XS.iloadN X_237.here hx rfl (hb hby at_46) rfl  k) ?_
  refine Go.step (fun _ k => XS.bipush X_237.here hx rfl (hb hby at_47) k) ?_
  show Go p e below _ (T_237.setTop (mkF m 49 #[vI q0, vI q1, vI q2, vI pl, vI dl, vR r_237, vU, vU, vU, vU] [(.int (8 : Int32)), (.int q1), (.int d0), (.int dl)]))
  refine Go.step (fun _ k => XS.iushr X_237.here hx rfl (hb hby at_49) rfl k) ?_
  show Go p e below _ (T_237.setTop (mkF m 50 #[vI q0, vI q1, vI q2, vI pl, vI dl, vR r_237, vU, vU, vU, vU] [(.int ((q1.toUInt32 >>> ((8 : Int32) &&& 31).toUInt32).toInt32)), (.int d0), (.int dl)]))
  refine Go.step (fun _ k => XS.sipush X_237.here hx rfl (hb hby at_50) k) ?_
  show Go p e below _ (T_237.setTop (mkF m 53 #[vI q0, vI q1, vI q2, vI pl, vI dl, vR r_237, vU, vU, vU, vU] [(.int (255 : Int32)), (.int ((q1.toUInt32 >>> ((8 : Int32) &&& 31).toUInt32).toInt32)), (.int d0), (.int dl)]))
  refine Go.step (fun _ k => XS.iand X_237.here hx rfl (hb hby at_53) rfl k) ?_
  show Go p e below _ (T_237.setTop (mkF m 54 #[vI q0, vI q1, vI q2, vI pl, vI dl, vR r_237, vU, vU, vU, vU] [(.int (((q1.toUInt32 >>> ((8 : Int32) &&& 31).toUInt32).toInt32) &&& (255 : Int32))), (.int d0), (.int dl)]))
  obtain ⟨d1, h_d1⟩ : ∃ z, z = (((q1.toUInt32 >>> ((8 : Int32) &&& 31).toUInt32).toInt32) &&& (255 : Int32)) := ⟨_, rfl⟩
  rw [← h_d1]
  show Go p e below _ (T_237.setTop (mkF m 54 #[vI q0, vI q1, vI q2, vI pl, vI dl, vR r_237, vU, vU, vU, vU] [(.int d1), (.int d0), (.int dl)]))
  have l_d1 : ¬ d1 < 0 ∧ ¬ (255 : Int32) < d1 := by rw [h_d1]; exact lat255 _
  show Go p e below _ (T_237.setTop (mkF m 54 #[vI q0, vI q1, vI q2, vI pl, vI dl, vR r_237, vU, vU, vU, vU] [(.int d1), (.int d0), (.int dl)]))
  obtain ⟨v_238, T_238, L_238, X_238, hQ_238, hS_238, hZ_238, hown_238, C_238, st_238⟩ := goSW X_237 hx hZ_237 (y := Y_35) hown_237 hS_237 (Nat.le_refl _) (wd_0 hw) (wd_1 hw) (wd_2 hw) (wd_3 hw) (by decide) (backOfSH (W := 0) (rm_mk l Z a0 hw zc vfm vus vss (dl) (d0) (d1) T_237.heap n0 (Nat.le_trans Z0 KP_237.1) l_d0 l_d1 hSt O_237) hZ_237 (wd_3 hw) (wd_2 hw) (by decide) (by decide) hEL C_237.1) rfl (g := (mkF m 54 #[vI q0, vI q1, vI q2, vI pl, vI dl, vR r_237, vU, vU, vU, vU] [(.int d1), (.int d0), (.int dl)])) rfl (by rw [hml]; rfl) (argsL := [(.int dl), (.int d0), (.int d1)]) (rest := []) rfl (lenOf pd_24 rfl) rfl (by show 2 * 0 + _ ≤ _; exact Nat.le_of_eq rfl) (hb hby at_54) (by decide) (by decide)
  obtain ⟨r_238, rfl, Nq_238, K_238, u0_238, u1_238⟩ := hQ_238
  have N_238 := Fr.app N_237 Nq_238
  have CR_238 := CHr.trans CR_237 C_238
  have le_238 : T_237.heap.size ≤ T_238.heap.size := K_238.1
  have KP_238 := KP_237.trans K_238 all0
  have O_238 := O_237.keep K_238 all0
  have sz_r_238 : h0.size ≤ r_238 := Nat.le_trans le_237 u0_238
  have g_r_238 : n0 ≤ r_238 := Nat.le_trans Z0 sz_r_238
  refine Go.step st_238 ?_
  show Go p e below _ (T_238.setTop (mkF m 57 #[vI q0, vI q1, vI q2, vI pl, vI dl, vR r_237, vU, vU, vU, vU] [(.ref r_238)]))
  refine Go.step (fun _ k => XS.astore X_238.here hx rfl (hb hby at_57) rfl rfl (l' := #[vI q0, vI q1, vI q2, vI pl, vI dl, vR r_237, vR r_238, vU, vU, vU]) rfl k) ?_
  show Go p e below _ (T_238.setTop (mkF m 59 #[vI q0, vI q1, vI q2, vI pl, vI dl, vR r_237, vR r_238, vU, vU, vU] []))
  obtain ⟨T_239, h_239, X_239, e_239, E_239, A_239, D_239, Un_239, st_239⟩ := newO X_238 hx hZ_238 hown_238 (wd_37 hw) (wd_38 hw) (wd_39 hw) rfl (g := (mkF m 59 #[vI q0, vI q1, vI q2, vI pl, vI dl, vR r_237, vR r_238, vU, vU, vU] [])) rfl (hb hby at_59) (by decide) (by decide)
  obtain ⟨b239, q_239⟩ : ∃ z, z = T_238.heap.size := ⟨_, rfl⟩
  rw [← q_239] at A_239 D_239 Un_239 st_239
  refine Go.step st_239 ?_
  have C_239 := CHr.ext E_239 C_238.1
  have CR_239 := CHr.trans CR_238 C_239
  have le_239 : T_238.heap.size ≤ h_239.size := E_239.1
  have KP_239 := KP_238.ext E_239
  have O_239 := O_238.ext E_239
  have ge_239 : T_238.heap.size ≤ b239 := Nat.le_of_eq q_239.symm
  have sz_b239 : h0.size ≤ b239 := Nat.le_trans (Nat.le_trans le_237 le_238) ge_239
  have g_b239 : n0 ≤ b239 := Nat.le_trans Z0 sz_b239
  have F_239_68 : Fld Z h_239 b239 "java/lang/Throwable" "cause" "Ljava/lang/Throwable;" .null := D_239 (Or.inl (wd_68 hw)) (ty := (.object "java/lang/Throwable")) pf_0
  have F_239_71 : Fld Z h_239 b239 "java/lang/Throwable" "stackTrace" "[Ljava/lang/StackTraceElement;" .null := D_239 (Or.inl (wd_71 hw)) (ty := (.array (.object "java/lang/StackTraceElement"))) pf_1
  have F_239_74 : Fld Z h_239 b239 "java/lang/Throwable" "suppressedExceptions" "Ljava/util/List;" .null := D_239 (Or.inl (wd_74 hw)) (ty := (.object "java/util/List")) pf_2
  have F_239_98 : Fld Z h_239 b239 "java/lang/Throwable" "detailMessage" "Ljava/lang/String;" .null := D_239 (Or.inl (wd_98 hw)) (ty := (.object "java/lang/String")) pf_4
  have F_239_99 : Fld Z h_239 b239 "java/lang/Throwable" "backtrace" "Ljava/lang/Object;" .null := D_239 (Or.inl (wd_99 hw)) (ty := (.object "java/lang/Object")) pf_3
  have F_239_100 : Fld Z h_239 b239 "java/lang/Throwable" "depth" "I" (.int (0 : Int32)) := D_239 (Or.inl (wd_100 hw)) (ty := .int) pf_7
  have Sf_b239 := Safe.ext E_239 C_238.1 (Safe.new ge_239)
  show Go p e below _ (T_239.setTop (mkF m 62 #[vI q0, vI q1, vI q2, vI pl, vI dl, vR r_237, vR r_238, vU, vU, vU] [(.ref b239)]))
  refine Go.step (fun _ k => XS.dup X_239.here hx rfl (hb hby at_62) rfl rfl k) ?_
  refine Go.step (fun _ k => XS.aload X_239.here hx rfl (hb hby at_63) rfl rfl k) ?_
  show Go p e below _ (T_239.setTop (mkF m 65 #[vI q0, vI q1, vI q2, vI pl, vI dl, vR r_237, vR r_238, vU, vU, vU] [(.ref r_238), (.ref b239), (.ref b239)]))
  obtain ⟨v_240, T_240, L_240, X_240, hQ_240, hS_240, hZ_240, hown_240, C_240, st_240⟩ := goCW X_239 hx hZ_238 (y := Y_27) hown_238 hS_238 (Nat.le_trans (Nat.le_refl _) le_239) rfl (wd_40 hw) (wd_41 hw) (wd_42 hw) (by decide) (backOfSKH (W := 1) (rm_ivS l Z a0 hw zc vfm vus vss (b239) (r_238) h_239 n0 (Nat.le_trans Z0 KP_239.1) A_239 Un_239 g_b239 hl F_239_68 F_239_71 F_239_74 F_239_99 F_239_98 hSt O_239) hZ_238 (wd_42 hw) (wd_39 hw) (by decide) (by decide) hEL C_239.1 (Vm.MethodsKnown.alikeC hZ_238.alike hTK) (Vm.FramesKnown.alikeC hZ_238.alike hFK)) e_239 (g := (mkF m 65 #[vI q0, vI q1, vI q2, vI pl, vI dl, vR r_237, vR r_238, vU, vU, vU] [(.ref r_238), (.ref b239), (.ref b239)])) rfl (by rw [hml]; rfl) (a := b239) (argsL := [(.ref r_238)]) (rest := [(.ref b239)]) rfl (lenOf pd_0 rfl) rfl (by show 2 * 0 + _ ≤ _; exact Nat.le_of_eq rfl) (hb hby at_65) (by decide) (by decide)
  obtain ⟨rfl, Nq_240, K_240, u0_240, u1_240⟩ := hQ_240
  have N_240 := Fr.app N_238 Nq_240
  have CR_240 := CHr.trans CR_239 C_240
  have le_240 : h_239.size ≤ T_240.heap.size := K_240.1
  have KP_240 := KP_239.trans K_240 (allS (Or.inr sz_b239) all0)
  have O_240 := O_239.keep K_240 (allS g_b239 all0)
  refine Go.step st_240 ?_
  show Go p e below _ (T_240.setTop (mkF m 68 #[vI q0, vI q1, vI q2, vI pl, vI dl, vR r_237, vR r_238, vU, vU, vU] [(.ref b239)]))
  refine Go.step (fun _ k => XS.astore X_240.here hx rfl (hb hby at_68) rfl rfl (l' := #[vI q0, vI q1, vI q2, vI pl, vI dl, vR r_237, vR r_238, vR b239, vU, vU]) rfl k) ?_
  show Go p e below _ (T_240.setTop (mkF m 70 #[vI q0, vI q1, vI q2, vI pl, vI dl, vR r_237, vR r_238, vR b239, vU, vU] []))
  refine Go.step (fun _ k => XS.aload X_240.here hx rfl (hb hby at_70) rfl rfl k) ?_
  refine Go.step (fun _ k => XS.aload X_240.here hx rfl (hb hby at_72) rfl rfl k) ?_
  show Go p e below _ (T_240.setTop (mkF m 74 #[vI q0, vI q1, vI q2, vI pl, vI dl, vR r_237, vR r_238, vR b239, vU, vU] [(.ref r_237), (.ref b239)]))
  have f241 : Str Z T_237.heap.size T_240.heap r_237 (mks pl c0 c1) := (((u1_237.keep K_238 all0).ext E_239).keep K_240 (allS (Nat.le_trans le_238 ge_239) all0))
  have f242 : Str Z T_238.heap.size T_240.heap r_238 (mks dl d0 d1) := ((u1_238.ext E_239).keep K_240 (allS (Nat.le_trans (Nat.le_refl _) ge_239) all0))
  obtain ⟨v_243, T_243, L_243, X_243, hQ_243, hS_243, hZ_243, hown_243, C_243, st_243⟩ := goVW X_240 hx hZ_240 (y := Y_36) (z := Y_36) hown_240 hS_240 (Nat.le_refl _) (wd_103 hw) (wd_104 hw) (notFace_of_selects (args := #[]) (mvT hZ_240 (wd_106 hw))) (wd_106 hw) (wd_105 hw) (by decide) (backOfSKH (W := 0) (rm_within l Z a0 hw zc vfm vus vss (b239) (r_238) (r_237) ((mks pl c0 c1)) ((mks dl d0 d1)) T_240.heap n0 (Nat.le_trans Z0 KP_240.1) u0_240 u1_240 (f241.mono (Nat.le_trans le_238 (Nat.le_trans le_239 le_240))) (f242.mono (Nat.le_trans le_239 le_240)) ⟨(mks_len h_p3).2, (mks_len h_d3).2⟩ hl hSt O_240) hZ_240 (wd_107 hw) (wd_39 hw) (by decide) (by decide) hEL C_240.1 (Vm.MethodsKnown.alikeC hZ_240.alike hTK) (Vm.FramesKnown.alikeC hZ_240.alike hFK)) rfl u0_240 (g := (mkF m 74 #[vI q0, vI q1, vI q2, vI pl, vI dl, vR r_237, vR r_238, vR b239, vU, vU] [(.ref r_237), (.ref b239)])) rfl (by rw [hml]; rfl) (argsL := [(.ref r_237)]) (rest := []) rfl (lenOf pd_25 rfl) rfl (by show 2 * 0 + _ ≤ _; exact Nat.le_of_eq rfl) (hb hby at_74) (by decide) (by decide)
  obtain ⟨r_243, mm_243, rfl, Nq_243, K_243, u0_243, u1_243, u2_243, u3_243⟩ := hQ_243
  have N_243 := Fr.app N_240 Nq_243
  have CR_243 := CHr.trans CR_240 C_243
  have le_243 : T_240.heap.size ≤ T_243.heap.size := K_243.1
  have KP_243 := KP_240.trans K_243 all0
  have O_243 := O_240.keep K_243 all0
  have sz_r_243 : h0.size ≤ r_243 := Nat.le_trans (Nat.le_trans le_237 (Nat.le_trans le_238 (Nat.le_trans le_239 le_240))) u1_243
  have g_r_243 : n0 ≤ r_243 := Nat.le_trans Z0 sz_r_243
  refine Go.step st_243 ?_
  show Go p e below _ (T_243.setTop (mkF m 77 #[vI q0, vI q1, vI q2, vI pl, vI dl, vR r_237, vR r_238, vR b239, vU, vU] [(.ref r_243)]))
  refine Go.step (fun _ k => XS.astore X_243.here hx rfl (hb hby at_77) rfl rfl (l' := #[vI q0, vI q1, vI q2, vI pl, vI dl, vR r_237, vR r_238, vR b239, vR r_243, vU]) rfl k) ?_
  show Go p e below _ (T_243.setTop (mkF m 79 #[vI q0, vI q1, vI q2, vI pl, vI dl, vR r_237, vR r_238, vR b239, vR r_243, vU] []))
  refine Go.step (fun _ k => XS.aload X_243.here hx rfl (hb hby at_79) rfl rfl k) ?_
  show Go p e below _ (T_243.setTop (mkF m 81 #[vI q0, vI q1, vI q2, vI pl, vI dl, vR r_237, vR r_238, vR b239, vR r_243, vU] [(.ref r_243)]))
  refine Go.step (fun _ k => XS.ifnonnullYes X_243.here hx rfl (pc0 := 81) (pc' := 86) rfl (hb hby at_81) rfl (by decide) (by decide) k) ?_
  show Go p e below _ (T_243.setTop (mkF m 86 #[vI q0, vI q1, vI q2, vI pl, vI dl, vR r_237, vR r_238, vR b239, vR r_243, vU] []))
  refine Go.step (fun _ k => XS.aload X_243.here hx rfl (hb hby at_86) rfl rfl k) ?_
  show Go p e below _ (T_243.setTop (mkF m 88 #[vI q0, vI q1, vI q2, vI pl, vI dl, vR r_237, vR r_238, vR b239, vR r_243, vU] [(.ref r_243)]))
  obtain ⟨v_244, T_244, L_244, X_244, hQ_244, st_244⟩ := goU X_243 hx hZ_243 (y := Y_24) (z := Y_25) hown_243 (wd_227 hw) (wd_176 hw) (wd_177 hw) (wd_179 hw) (wd_178 hw) (by decide) (backOf (W := 0) (rm_gm l Z a0 hw zc vfm vus vss (r_243) (mm_243) T_243.heap n0 (Nat.le_trans Z0 KP_243.1) u0_243 hSt O_243) hZ_243 (wd_180 hw) (wd_64 hw) (by decide) (by decide)) rfl u2_243 (g := (mkF m 88 #[vI q0, vI q1, vI q2, vI pl, vI dl, vR r_237, vR r_238, vR b239, vR r_243, vU] [(.ref r_243)])) rfl (by rw [hml]; rfl) (argsL := []) (rest := []) rfl (lenOf pd_16 rfl) rfl (by show 2 * 0 + _ ≤ _; exact Nat.le_of_eq rfl) (hb hby at_88) (by decide) (by decide)
  obtain ⟨rfl, Nq_244, e_244⟩ := hQ_244
  have N_244 := Fr.app N_243 Nq_244
  refine Go.step st_244 ?_
  show Go p e below _ (T_244.setTop (mkF m 91 #[vI q0, vI q1, vI q2, vI pl, vI dl, vR r_237, vR r_238, vR b239, vR r_243, vU] [(.ref mm_243)]))
  refine Go.step (fun _ k => XS.astore X_244.here hx rfl (hb hby at_91) rfl rfl (l' := #[vI q0, vI q1, vI q2, vI pl, vI dl, vR r_237, vR r_238, vR b239, vR r_243, vR mm_243]) rfl k) ?_
  show Go p e below _ (T_244.setTop (mkF m 93 #[vI q0, vI q1, vI q2, vI pl, vI dl, vR r_237, vR r_238, vR b239, vR r_243, vR mm_243] []))
  refine Go.step (fun _ k => XS.aload X_244.here hx rfl (hb hby at_93) rfl rfl k) ?_
  show Go p e below _ (T_244.setTop (mkF m 95 #[vI q0, vI q1, vI q2, vI pl, vI dl, vR r_237, vR r_238, vR b239, vR r_243, vR mm_243] [(.ref mm_243)]))
  refine Go.step (fun _ k => XS.ifnonnullYes X_244.here hx rfl (pc0 := 95) (pc' := 100) rfl (hb hby at_95) rfl (by decide) (by decide) k) ?_
  show Go p e below _ (T_244.setTop (mkF m 100 #[vI q0, vI q1, vI q2, vI pl, vI dl, vR r_237, vR r_238, vR b239, vR r_243, vR mm_243] []))
  refine Go.step (fun _ k => XS.aload X_244.here hx rfl (hb hby at_100) rfl rfl k) ?_
  show Go p e below _ (T_244.setTop (mkF m 102 #[vI q0, vI q1, vI q2, vI pl, vI dl, vR r_237, vR r_238, vR b239, vR r_243, vR mm_243] [(.ref mm_243)]))
  have cp245 := u3_243
  obtain ⟨t246, kb246, -, -, Ex246, Fv246, Fc246, Av246, hl246, hn246⟩ := cp245
  obtain ⟨v_247, T_247, L_247, X_247, hQ_247, st_247⟩ := goV X_244 hx hZ_243 (y := Y_8) (z := Y_8) (kc := 0) (ks := 0) (QQ := fun v h' L => v = some (.int (Int32.ofNat (((mks pl c0 c1) ++ ([(46 : Int32)] : List Int32)) ++ (mks dl d0 d1)).length)) ∧ L = [] ∧ h' = T_243.heap) hown_243 (wd_228 hw) (wd_138 hw) (notFace_of_selects (args := #[]) (mvT hZ_243 (wd_140 hw))) (wd_140 hw) (wd_139 hw) (by decide) (StrChars.Road.lenW (W := 0) (s := s.setVm T_243.vm) hZ_243 (sw_wordsLen hw) (kI := 4) (wd_5 hw) Ex246 Fv246 Fc246 Av246 (StrChars.Road.codOf rfl (fun c hc => (hl246 c hc).2)) (up255 hl246) (S_cs.ext O_243.2) n_cs hn246 (by decide) (by decide)) e_244 Ex246 (g := (mkF m 102 #[vI q0, vI q1, vI q2, vI pl, vI dl, vR r_237, vR r_238, vR b239, vR r_243, vR mm_243] [(.ref mm_243)])) rfl (by rw [hml]; rfl) (argsL := []) (rest := []) rfl (lenOf pd_4 rfl) rfl (by show 2 * 0 + _ ≤ _; exact Nat.le_of_eq rfl) (hb hby at_102) (by decide) (by decide)
  obtain ⟨rfl, rfl, e_247⟩ := hQ_247
  have N_247 := Fr.app N_244 (Fr.nil n0)
  refine Go.step st_247 ?_
  show Go p e below _ (T_247.setTop (mkF m 105 #[vI q0, vI q1, vI q2, vI pl, vI dl, vR r_237, vR r_238, vR b239, vR r_243, vR mm_243] [(.int (Int32.ofNat (((mks pl c0 c1) ++ ([(46 : Int32)] : List Int32)) ++ (mks dl d0 d1)).length))]))
  refine Go.step (fun _ k => XS.iloadN X_247.here hx rfl (hb hby at_105) rfl  k) ?_
  refine Go.step (fun _ k => XS.iconst X_247.here hx rfl (hb hby at_106) k) ?_
  show Go p e below _ (T_247.setTop (mkF m 107 #[vI q0, vI q1, vI q2, vI pl, vI dl, vR r_237, vR r_238, vR b239, vR r_243, vR mm_243] [(.int (1 : Int32)), (.int pl), (.int (Int32.ofNat (((mks pl c0 c1) ++ ([(46 : Int32)] : List Int32)) ++ (mks dl d0 d1)).length))]))
  refine Go.step (fun _ k => XS.iadd X_247.here hx rfl (hb hby at_107) rfl k) ?_
  show Go p e below _ (T_247.setTop (mkF m 108 #[vI q0, vI q1, vI q2, vI pl, vI dl, vR r_237, vR r_238, vR b239, vR r_243, vR mm_243] [(.int (pl + (1 : Int32))), (.int (Int32.ofNat (((mks pl c0 c1) ++ ([(46 : Int32)] : List Int32)) ++ (mks dl d0 d1)).length))]))
  refine Go.step (fun _ k => XS.iload X_247.here hx rfl (hb hby at_108) rfl  k) ?_
  show Go p e below _ (T_247.setTop (mkF m 110 #[vI q0, vI q1, vI q2, vI pl, vI dl, vR r_237, vR r_238, vR b239, vR r_243, vR mm_243] [(.int dl), (.int (pl + (1 : Int32))), (.int (Int32.ofNat (((mks pl c0 c1) ++ ([(46 : Int32)] : List Int32)) ++ (mks dl d0 d1)).length))]))
  refine Go.step (fun _ k => XS.iadd X_247.here hx rfl (hb hby at_110) rfl k) ?_
  show Go p e below _ (T_247.setTop (mkF m 111 #[vI q0, vI q1, vI q2, vI pl, vI dl, vR r_237, vR r_238, vR b239, vR r_243, vR mm_243] [(.int ((pl + (1 : Int32)) + dl)), (.int (Int32.ofNat (((mks pl c0 c1) ++ ([(46 : Int32)] : List Int32)) ++ (mks dl d0 d1)).length))]))
  refine Go.step (fun _ k => XS.icmpYes X_247.here hx rfl (pc0 := 111) (pc' := 116) rfl (hb hby at_111) rfl (teq ((len32 (mks_len h_p3).1 (mks_len h_d3).1) : (Int32.ofNat (((mks pl c0 c1) ++ ([(46 : Int32)] : List Int32)) ++ (mks dl d0 d1)).length) = ((pl + (1 : Int32)) + dl))).1 (by decide) (by decide) k) ?_
  show Go p e below _ (T_247.setTop (mkF m 116 #[vI q0, vI q1, vI q2, vI pl, vI dl, vR r_237, vR r_238, vR b239, vR r_243, vR mm_243] []))
  refine Go.step (fun _ k => XS.aload X_247.here hx rfl (hb hby at_116) rfl rfl k) ?_
  refine Go.step (fun _ k => XS.aload X_247.here hx rfl (hb hby at_118) rfl rfl k) ?_
  refine Go.step (fun _ k => XS.aload X_247.here hx rfl (hb hby at_120) rfl rfl k) ?_
  refine Go.step (fun _ k => XS.iconst X_247.here hx rfl (hb hby at_122) k) ?_
  show Go p e below _ (T_247.setTop (mkF m 123 #[vI q0, vI q1, vI q2, vI pl, vI dl, vR r_237, vR r_238, vR b239, vR r_243, vR mm_243] [(.int (0 : Int32)), (.ref r_238), (.ref r_237), (.ref mm_243)]))
  have f248 : Str Z T_237.heap.size T_243.heap r_237 (mks pl c0 c1) := (f241.keep K_243 all0)
  have f249 : Str Z T_238.heap.size T_243.heap r_238 (mks dl d0 d1) := (f242.keep K_243 all0)
  obtain ⟨v_250, T_250, L_250, X_250, hQ_250, st_250⟩ := goS X_247 hx hZ_243 (y := Y_37) hown_243 (wd_229 hw) (wd_230 hw) (wd_2 hw) (wd_231 hw) (by decide) (backOf (W := 0) (rm_at l Z a0 hw zc vfm vus vss (mm_243) (r_237) (r_238) ((mks pl c0 c1)) ((mks dl d0 d1)) (0) T_243.heap n0 (Nat.le_trans Z0 KP_243.1) u3_243 (f248.mono (Nat.le_trans le_238 (Nat.le_trans le_239 (Nat.le_trans le_240 le_243)))) (f249.mono (Nat.le_trans le_239 (Nat.le_trans le_240 le_243))) (by decide) ⟨(mks_len h_p3).2, (mks_len h_d3).2⟩ hSt O_243) hZ_243 (wd_231 hw) (wd_2 hw) (by decide) (by decide)) e_247 (g := (mkF m 123 #[vI q0, vI q1, vI q2, vI pl, vI dl, vR r_237, vR r_238, vR b239, vR r_243, vR mm_243] [(.int (0 : Int32)), (.ref r_238), (.ref r_237), (.ref mm_243)])) rfl (by rw [hml]; rfl) (argsL := [(.ref mm_243), (.ref r_237), (.ref r_238), (.int (0 : Int32))]) (rest := []) rfl (lenOf pd_26 rfl) rfl (by show 2 * 0 + _ ≤ _; exact Nat.le_of_eq rfl) (hb hby at_123) (by decide) (by decide)
  obtain ⟨rfl, Nq_250, e_250⟩ := hQ_250
  have N_250 := Fr.app N_247 Nq_250
  refine Go.step st_250 ?_
  show Go p e below _ (T_250.setTop (mkF m 126 #[vI q0, vI q1, vI q2, vI pl, vI dl, vR r_237, vR r_238, vR b239, vR r_243, vR mm_243] [(.int (1 : Int32))]))
  refine Go.step (fun _ k => XS.ifNo X_250.here hx rfl (hb hby at_126) rfl ((if0 _ _).trans (feq ((by decide) : ¬ ((1 : Int32) = (0 : Int32)))).1) k) ?_
  show Go p e below _ (T_250.setTop (mkF m 129 #[vI q0, vI q1, vI q2, vI pl, vI dl, vR r_237, vR r_238, vR b239, vR r_243, vR mm_243] []))
  refine Go.step (fun _ k => XS.aload X_250.here hx rfl (hb hby at_129) rfl rfl k) ?_
  refine Go.step (fun _ k => XS.aload X_250.here hx rfl (hb hby at_131) rfl rfl k) ?_
  refine Go.step (fun _ k => XS.aload X_250.here hx rfl (hb hby at_133) rfl rfl k) ?_
  refine Go.step (fun _ k => XS.iconst X_250.here hx rfl (hb hby at_135) k) ?_
  show Go p e below _ (T_250.setTop (mkF m 136 #[vI q0, vI q1, vI q2, vI pl, vI dl, vR r_237, vR r_238, vR b239, vR r_243, vR mm_243] [(.int (1 : Int32)), (.ref r_238), (.ref r_237), (.ref mm_243)]))
  obtain ⟨v_251, T_251, L_251, X_251, hQ_251, st_251⟩ := goS X_250 hx hZ_243 (y := Y_37) hown_243 (wd_229 hw) (wd_230 hw) (wd_2 hw) (wd_231 hw) (by decide) (backOf (W := 0) (rm_at l Z a0 hw zc vfm vus vss (mm_243) (r_237) (r_238) ((mks pl c0 c1)) ((mks dl d0 d1)) (1) T_243.heap n0 (Nat.le_trans Z0 KP_243.1) u3_243 (f248.mono (Nat.le_trans le_238 (Nat.le_trans le_239 (Nat.le_trans le_240 le_243)))) (f249.mono (Nat.le_trans le_239 (Nat.le_trans le_240 le_243))) (by decide) ⟨(mks_len h_p3).2, (mks_len h_d3).2⟩ hSt O_243) hZ_243 (wd_231 hw) (wd_2 hw) (by decide) (by decide)) e_250 (g := (mkF m 136 #[vI q0, vI q1, vI q2, vI pl, vI dl, vR r_237, vR r_238, vR b239, vR r_243, vR mm_243] [(.int (1 : Int32)), (.ref r_238), (.ref r_237), (.ref mm_243)])) rfl (by rw [hml]; rfl) (argsL := [(.ref mm_243), (.ref r_237), (.ref r_238), (.int (1 : Int32))]) (rest := []) rfl (lenOf pd_26 rfl) rfl (by show 2 * 0 + _ ≤ _; exact Nat.le_of_eq rfl) (hb hby at_136) (by decide) (by decide)
  obtain ⟨rfl, Nq_251, e_251⟩ := hQ_251
  have N_251 := Fr.app N_250 Nq_251
  refine Go.step st_251 ?_
  show Go p e below _ (T_251.setTop (mkF m 139 #[vI q0, vI q1, vI q2, vI pl, vI dl, vR r_237, vR r_238, vR b239, vR r_243, vR mm_243] [(.int (1 : Int32))]))
  refine Go.step (fun _ k => XS.ifNo X_251.here hx rfl (hb hby at_139) rfl ((if0 _ _).trans (feq ((by decide) : ¬ ((1 : Int32) = (0 : Int32)))).1) k) ?_
  show Go p e below _ (T_251.setTop (mkF m 142 #[vI q0, vI q1, vI q2, vI pl, vI dl, vR r_237, vR r_238, vR b239, vR r_243, vR mm_243] []))
  refine Go.step (fun _ k => XS.aload X_251.here hx rfl (hb hby at_142) rfl rfl k) ?_
  refine Go.step (fun _ k => XS.aload X_251.here hx rfl (hb hby at_144) rfl rfl k) ?_
  refine Go.step (fun _ k => XS.aload X_251.here hx rfl (hb hby at_146) rfl rfl k) ?_
  refine Go.step (fun _ k => XS.iconst X_251.here hx rfl (hb hby at_148) k) ?_
  show Go p e below _ (T_251.setTop (mkF m 149 #[vI q0, vI q1, vI q2, vI pl, vI dl, vR r_237, vR r_238, vR b239, vR r_243, vR mm_243] [(.int (2 : Int32)), (.ref r_238), (.ref r_237), (.ref mm_243)]))
  obtain ⟨v_252, T_252, L_252, X_252, hQ_252, st_252⟩ := goS X_251 hx hZ_243 (y := Y_37) hown_243 (wd_229 hw) (wd_230 hw) (wd_2 hw) (wd_231 hw) (by decide) (backOf (W := 0) (rm_at l Z a0 hw zc vfm vus vss (mm_243) (r_237) (r_238) ((mks pl c0 c1)) ((mks dl d0 d1)) (2) T_243.heap n0 (Nat.le_trans Z0 KP_243.1) u3_243 (f248.mono (Nat.le_trans le_238 (Nat.le_trans le_239 (Nat.le_trans le_240 le_243)))) (f249.mono (Nat.le_trans le_239 (Nat.le_trans le_240 le_243))) (by decide) ⟨(mks_len h_p3).2, (mks_len h_d3).2⟩ hSt O_243) hZ_243 (wd_231 hw) (wd_2 hw) (by decide) (by decide)) e_251 (g := (mkF m 149 #[vI q0, vI q1, vI q2, vI pl, vI dl, vR r_237, vR r_238, vR b239, vR r_243, vR mm_243] [(.int (2 : Int32)), (.ref r_238), (.ref r_237), (.ref mm_243)])) rfl (by rw [hml]; rfl) (argsL := [(.ref mm_243), (.ref r_237), (.ref r_238), (.int (2 : Int32))]) (rest := []) rfl (lenOf pd_26 rfl) rfl (by show 2 * 0 + _ ≤ _; exact Nat.le_of_eq rfl) (hb hby at_149) (by decide) (by decide)
  obtain ⟨rfl, Nq_252, e_252⟩ := hQ_252
  have N_252 := Fr.app N_251 Nq_252
  refine Go.step st_252 ?_
  show Go p e below _ (T_252.setTop (mkF m 152 #[vI q0, vI q1, vI q2, vI pl, vI dl, vR r_237, vR r_238, vR b239, vR r_243, vR mm_243] [(.int (1 : Int32))]))
  refine Go.step (fun _ k => XS.ifNo X_252.here hx rfl (hb hby at_152) rfl ((if0 _ _).trans (feq ((by decide) : ¬ ((1 : Int32) = (0 : Int32)))).1) k) ?_
  show Go p e below _ (T_252.setTop (mkF m 155 #[vI q0, vI q1, vI q2, vI pl, vI dl, vR r_237, vR r_238, vR b239, vR r_243, vR mm_243] []))
  refine Go.step (fun _ k => XS.aload X_252.here hx rfl (hb hby at_155) rfl rfl k) ?_
  refine Go.step (fun _ k => XS.aload X_252.here hx rfl (hb hby at_157) rfl rfl k) ?_
  refine Go.step (fun _ k => XS.aload X_252.here hx rfl (hb hby at_159) rfl rfl k) ?_
  refine Go.step (fun _ k => XS.iconst X_252.here hx rfl (hb hby at_161) k) ?_
  show Go p e below _ (T_252.setTop (mkF m 162 #[vI q0, vI q1, vI q2, vI pl, vI dl, vR r_237, vR r_238, vR b239, vR r_243, vR mm_243] [(.int (3 : Int32)), (.ref r_238), (.ref r_237), (.ref mm_243)]))
  obtain ⟨v_253, T_253, L_253, X_253, hQ_253, st_253⟩ := goS X_252 hx hZ_243 (y := Y_37) hown_243 (wd_229 hw) (wd_230 hw) (wd_2 hw) (wd_231 hw) (by decide) (backOf (W := 0) (rm_at l Z a0 hw zc vfm vus vss (mm_243) (r_237) (r_238) ((mks pl c0 c1)) ((mks dl d0 d1)) (3) T_243.heap n0 (Nat.le_trans Z0 KP_243.1) u3_243 (f248.mono (Nat.le_trans le_238 (Nat.le_trans le_239 (Nat.le_trans le_240 le_243)))) (f249.mono (Nat.le_trans le_239 (Nat.le_trans le_240 le_243))) (by decide) ⟨(mks_len h_p3).2, (mks_len h_d3).2⟩ hSt O_243) hZ_243 (wd_231 hw) (wd_2 hw) (by decide) (by decide)) e_252 (g := (mkF m 162 #[vI q0, vI q1, vI q2, vI pl, vI dl, vR r_237, vR r_238, vR b239, vR r_243, vR mm_243] [(.int (3 : Int32)), (.ref r_238), (.ref r_237), (.ref mm_243)])) rfl (by rw [hml]; rfl) (argsL := [(.ref mm_243), (.ref r_237), (.ref r_238), (.int (3 : Int32))]) (rest := []) rfl (lenOf pd_26 rfl) rfl (by show 2 * 0 + _ ≤ _; exact Nat.le_of_eq rfl) (hb hby at_162) (by decide) (by decide)
  obtain ⟨rfl, Nq_253, e_253⟩ := hQ_253
  have N_253 := Fr.app N_252 Nq_253
  refine Go.step st_253 ?_
  show Go p e below _ (T_253.setTop (mkF m 165 #[vI q0, vI q1, vI q2, vI pl, vI dl, vR r_237, vR r_238, vR b239, vR r_243, vR mm_243] [(.int (1 : Int32))]))
  refine Go.step (fun _ k => XS.ifNo X_253.here hx rfl (hb hby at_165) rfl ((if0 _ _).trans (feq ((by decide) : ¬ ((1 : Int32) = (0 : Int32)))).1) k) ?_
  show Go p e below _ (T_253.setTop (mkF m 168 #[vI q0, vI q1, vI q2, vI pl, vI dl, vR r_237, vR r_238, vR b239, vR r_243, vR mm_243] []))
  refine Go.step (fun _ k => XS.aload X_253.here hx rfl (hb hby at_168) rfl rfl k) ?_
  refine Go.step (fun _ k => XS.aload X_253.here hx rfl (hb hby at_170) rfl rfl k) ?_
  refine Go.step (fun _ k => XS.aload X_253.here hx rfl (hb hby at_172) rfl rfl k) ?_
  refine Go.step (fun _ k => XS.iconst X_253.here hx rfl (hb hby at_174) k) ?_
  show Go p e below _ (T_253.setTop (mkF m 175 #[vI q0, vI q1, vI q2, vI pl, vI dl, vR r_237, vR r_238, vR b239, vR r_243, vR mm_243] [(.int (4 : Int32)), (.ref r_238), (.ref r_237), (.ref mm_243)]))
  obtain ⟨v_254, T_254, L_254, X_254, hQ_254, st_254⟩ := goS X_253 hx hZ_243 (y := Y_37) hown_243 (wd_229 hw) (wd_230 hw) (wd_2 hw) (wd_231 hw) (by decide) (backOf (W := 0) (rm_at l Z a0 hw zc vfm vus vss (mm_243) (r_237) (r_238) ((mks pl c0 c1)) ((mks dl d0 d1)) (4) T_243.heap n0 (Nat.le_trans Z0 KP_243.1) u3_243 (f248.mono (Nat.le_trans le_238 (Nat.le_trans le_239 (Nat.le_trans le_240 le_243)))) (f249.mono (Nat.le_trans le_239 (Nat.le_trans le_240 le_243))) (by decide) ⟨(mks_len h_p3).2, (mks_len h_d3).2⟩ hSt O_243) hZ_243 (wd_231 hw) (wd_2 hw) (by decide) (by decide)) e_253 (g := (mkF m 175 #[vI q0, vI q1, vI q2, vI pl, vI dl, vR r_237, vR r_238, vR b239, vR r_243, vR mm_243] [(.int (4 : Int32)), (.ref r_238), (.ref r_237), (.ref mm_243)])) rfl (by rw [hml]; rfl) (argsL := [(.ref mm_243), (.ref r_237), (.ref r_238), (.int (4 : Int32))]) (rest := []) rfl (lenOf pd_26 rfl) rfl (by show 2 * 0 + _ ≤ _; exact Nat.le_of_eq rfl) (hb hby at_175) (by decide) (by decide)
  obtain ⟨rfl, Nq_254, e_254⟩ := hQ_254
  have N_254 := Fr.app N_253 Nq_254
  refine Go.step st_254 ?_
  show Go p e below _ (T_254.setTop (mkF m 178 #[vI q0, vI q1, vI q2, vI pl, vI dl, vR r_237, vR r_238, vR b239, vR r_243, vR mm_243] [(.int (1 : Int32))]))
  refine Go.step (fun _ k => XS.ifNo X_254.here hx rfl (hb hby at_178) rfl ((if0 _ _).trans (feq ((by decide) : ¬ ((1 : Int32) = (0 : Int32)))).1) k) ?_
  show Go p e below _ (T_254.setTop (mkF m 181 #[vI q0, vI q1, vI q2, vI pl, vI dl, vR r_237, vR r_238, vR b239, vR r_243, vR mm_243] []))
  refine Go.step (fun _ k => XS.aload X_254.here hx rfl (hb hby at_181) rfl rfl k) ?_
  refine Go.step (fun _ k => XS.aload X_254.here hx rfl (hb hby at_183) rfl rfl k) ?_
  show Go p e below _ (T_254.setTop (mkF m 185 #[vI q0, vI q1, vI q2, vI pl, vI dl, vR r_237, vR r_238, vR b239, vR r_243, vR mm_243] [(.ref b239), (.ref r_238)]))
  have f255 : Fld Z T_243.heap b239 "java/lang/Throwable" "detailMessage" "Ljava/lang/String;" (.ref r_238) := (u1_240.keep K_243 nin0)
  have f257 : Exa Z T_243.heap b239 "com/example/hallstatt/hallstatt/InvalidValueException" := (u0_240.keep K_243)
  obtain ⟨v_256, T_256, L_256, X_256, hQ_256, st_256⟩ := goU X_254 hx hZ_243 (y := Y_24) (z := Y_25) hown_243 (wd_227 hw) (wd_176 hw) (wd_177 hw) (wd_179 hw) (wd_178 hw) (by decide) (backOf (W := 1) (rm_gm l Z a0 hw zc vfm vus vss (b239) (r_238) T_243.heap n0 (Nat.le_trans Z0 KP_243.1) f255 hSt O_243) hZ_243 (wd_180 hw) (wd_64 hw) (by decide) (by decide)) e_254 f257 (g := (mkF m 185 #[vI q0, vI q1, vI q2, vI pl, vI dl, vR r_237, vR r_238, vR b239, vR r_243, vR mm_243] [(.ref b239), (.ref r_238)])) rfl (by rw [hml]; rfl) (argsL := []) (rest := [(.ref r_238)]) rfl (lenOf pd_16 rfl) rfl (by show 2 * 0 + _ ≤ _; exact Nat.le_of_eq rfl) (hb hby at_185) (by decide) (by decide)
  obtain ⟨rfl, Nq_256, e_256⟩ := hQ_256
  have N_256 := Fr.app N_254 Nq_256
  refine Go.step st_256 ?_
  show Go p e below _ (T_256.setTop (mkF m 188 #[vI q0, vI q1, vI q2, vI pl, vI dl, vR r_237, vR r_238, vR b239, vR r_243, vR mm_243] [(.ref r_238), (.ref r_238)]))
  obtain ⟨v_258, T_258, L_258, X_258, hQ_258, st_258⟩ := goV X_256 hx hZ_243 (y := Y_38) (z := Y_38) hown_243 (wd_254 hw) (wd_255 hw) (notFace_of_selects (args := #[]) (mvT hZ_243 (wd_257 hw))) (wd_257 hw) (wd_256 hw) (by decide) (backOf (W := 0) (rm_eqS l Z a0 hw zc vfm vus vss (r_238) T_243.heap n0 (Nat.le_trans Z0 KP_243.1) hSt O_243) hZ_243 (wd_258 hw) (wd_6 hw) (by decide) (by decide)) e_256 f249.exa (g := (mkF m 188 #[vI q0, vI q1, vI q2, vI pl, vI dl, vR r_237, vR r_238, vR b239, vR r_243, vR mm_243] [(.ref r_238), (.ref r_238)])) rfl (by rw [hml]; rfl) (argsL := [(.ref r_238)]) (rest := []) rfl (lenOf pd_27 rfl) rfl (by show 2 * 0 + _ ≤ _; exact Nat.le_of_eq rfl) (hb hby at_188) (by decide) (by decide)
  obtain ⟨rfl, Nq_258, e_258⟩ := hQ_258
  have N_258 := Fr.app N_256 Nq_258
  refine Go.step st_258 ?_
  show Go p e below _ (T_258.setTop (mkF m 191 #[vI q0, vI q1, vI q2, vI pl, vI dl, vR r_237, vR r_238, vR b239, vR r_243, vR mm_243] [(.int (1 : Int32))]))
  refine Go.step (fun _ k => XS.ifNo X_258.here hx rfl (hb hby at_191) rfl ((if0 _ _).trans (feq ((by decide) : ¬ ((1 : Int32) = (0 : Int32)))).1) k) ?_
  show Go p e below _ (T_258.setTop (mkF m 194 #[vI q0, vI q1, vI q2, vI pl, vI dl, vR r_237, vR r_238, vR b239, vR r_243, vR mm_243] []))
  refine Go.step (fun _ k => XS.iconst X_258.here hx rfl (hb hby at_194) k) ?_
  show Go p e below _ (T_258.setTop (mkF m 195 #[vI q0, vI q1, vI q2, vI pl, vI dl, vR r_237, vR r_238, vR b239, vR r_243, vR mm_243] [(.int (1 : Int32))]))
  refine Go.step (fun _ k => XS.goto X_258.here hx rfl (pc0 := 195) (pc' := 199) rfl (hb hby at_195) (by decide) (by decide) k) ?_
  show Go p e below _ (T_258.setTop (mkF m 199 #[vI q0, vI q1, vI q2, vI pl, vI dl, vR r_237, vR r_238, vR b239, vR r_243, vR mm_243] [(.int (1 : Int32))]))
  exact Go.retVW X_258 e_258 hS_243 (Nat.le_refl _) hZ_243 hEL hh0 CR_243 hx hlk hret rfl (Or.inl ⟨rfl, Or.inr (Or.inl rfl), _, rfl⟩) (hb hby at_199) (by decide) (by decide) (by rw [e_258]; exact ⟨rfl, N_258⟩)
--@E
set_option maxRecDepth 65536 in
set_option maxHeartbeats 40000000 in
theorem comes_1 {Post : Tables → Env → Array Value → State → Outcome → State → Prop} (hpost : ∀ tb e args s v u, (limb_1_1.after args s (.returned v) u = true ∧ limb_1_2.after args s (.returned v) u = true ∧ True) → ReturnedEndW s (.returned v) u (Jvm.fieldLocs frame_1_writes args s ++ Jvm.arrayLocs frame_1_arrays args s ++ Jvm.staticLocs frame_1_statics s) 40 13248 → Post tb e args s (.returned v) u) :
    ArmFor flags0 classFile x code maxLocals ret World_1 tables_1 room_1 Calls_1 rest_1 Pre_1 Post := by
  intro l hfl _ _ p e ha hc hk s m args below hf hA hF happ hP
  obtain ⟨hcalls, hrest, hpre⟩ := hP
  obtain ⟨-, -, -, hnamed, -, -, -, hat⟩ := (Spec.applies_iff hf).mp happ
  obtain ⟨hg, hn⟩ := and_e (Cond.before_iff.mp (show (Jvm.Cond.and given_1 narrow_1).before args s = true from hpre))
  obtain ⟨g_c, g_0⟩ := and_e hg
  obtain ⟨ga_0, g_1⟩ := and_e g_0
  obtain ⟨ga_1, g_2⟩ := and_e g_1
  have ga_2 := g_2
  obtain ⟨w0, w1, w2, rfl⟩ : ∃ w0 w1 w2 : Value, args = #[w0, w1, w2] := by
    have hs : args.size = 3 := by simpa [Cond.value, given_1] using g_c
    obtain ⟨L⟩ := args
    match L, hs with
    | [w0, w1, w2], _ => exact ⟨w0, w1, w2, rfl⟩
  have hw := fun d (hd : d ∈ tables_1) => atoms_spec (ws := Jvm.Cond.code x code maxLocals ret :: tables_1) hat d (List.mem_cons_of_mem _ hd)
  obtain ⟨hsets, hown0⟩ := atoms_of _ (rest_1_c_eq ▸ (show rest_1_c.before _ s = true from hrest))
  obtain ⟨i0, ei0⟩ := is_v ga_0
  obtain rfl : w0 = (.int i0) := Option.some.inj ei0
  obtain ⟨i1, ei1⟩ := is_v ga_1
  obtain rfl : w1 = (.int i1) := Option.some.inj ei1
  obtain ⟨i2, ei2⟩ := is_v ga_2
  obtain rfl : w2 = (.int i2) := Option.some.inj ei2
  have hs := fun (k : Nat) (d : Jvm.Cond) (h : jdkStatics_1[k]? = some d) => Cond.before_iff.mp (hsets d (List.mem_of_getElem? h))
  obtain ⟨zc, ezc⟩ := is_v (hs 1 _ rfl)
  have S_cs : Sta s s.heap "java/lang/String" "COMPACT_STRINGS" "Z" (.int zc) := Sta.start ezc (Or.inl (hsets _ (List.mem_of_getElem? (i := 0) rfl)))
  have n_cs : ¬ (zc = (0 : Int32)) := gotF (Cond.eq_ints ezc (Term.int_eval (0))) (not_v (hs 2 _ rfl))
  obtain ⟨vfm, v_fm, r_fm⟩ := isR_v (hs 8 _ rfl)
  have S_fm : Sta s s.heap "jdk/internal/util/Preconditions" "SIOOBE_FORMATTER" "Ljava/util/function/BiFunction;" vfm := Sta.start v_fm (Or.inl (hsets _ (List.mem_of_getElem? (i := 7) rfl)))
  obtain ⟨vus, e_vus, r_us⟩ := isR_v (hs 16 _ rfl)
  have S_us : Sta s s.heap "java/lang/Throwable" "UNASSIGNED_STACK" "[Ljava/lang/StackTraceElement;" vus := Sta.start e_vus (Or.inl (hsets _ (List.mem_of_getElem? (i := 15) rfl)))
  obtain ⟨vss, e_vss, r_ss⟩ := isR_v (hs 21 _ rfl)
  have S_ss : Sta s s.heap "java/lang/Throwable" "SUPPRESSED_SENTINEL" "Ljava/util/List;" vss := Sta.start e_vss (Or.inl (hsets _ (List.mem_of_getElem? (i := 20) rfl)))
  have hSt : St s zc vfm vus vss := ⟨S_cs, n_cs, S_fm, r_fm, S_us, r_us, S_ss, r_ss⟩
  have hl : l.stackTraces = true := by unfold Launch.stackTraces; rw [hfl]; decide
  have hCV : CHv s EL s.vm s.heap := CHv.start (hEL_ hw) hcalls.2.2.1 (hsets _ (List.mem_of_getElem? (i := 2) rfl)) (wd_23 hw) (wd_5 hw)
  obtain ⟨n, o, h1, h2, h3, _, L, rfl, ⟨rfl, N⟩, -, hq⟩ := rm_law l s _ hw zc vfm vus vss i0 i1 i2 s.heap s.heap.size (Nat.le_refl _) hl hSt (Old.start s) p e ha hc hk s m _ below hf ((Spec.applies_iff_loose hf).mp happ).1 ⟨rfl, State.Warmed39.refl s, rfl, hCV⟩ ⟨hcalls.1, hcalls.2.1⟩
  refine ⟨n, _, h1, h2, h3, hpost _ _ _ _ _ _ ⟨Cond.after_iff.mpr rfl, Cond.after_iff.mpr (eq_i res_at (Term.int_eval (1)) rfl), trivial⟩ ⟨hq.1, hq.2.1, hq.2.2.1, (hq.2.2.2.sift fun y hy => Or.inr (N y hy)).mono (by decide) (by decide)⟩⟩
theorem main_1_1 : Claimed_1_1 := comes_1 fun _ _ _ _ _ _ h hF => ⟨h.1, hF⟩
theorem main_1_2 : Claimed_1_2 := comes_1 fun _ _ _ _ _ _ h hF => ⟨h.2.1, hF⟩
end Jvm.Pilot.@@N@@
namespace Jvm.Pilot.@@N@@
open Jvm Jvm.ClassFile Sem Op Lib Jvm.Free Jvm.Stand Jvm.Pilot.@@N@@.Jvm.D
/-! MADE BY PROGRAM (witnessworld.py) out of the Statement's table words and the real class files: 43 classes; the members and pool entries that the words name. The judged class is class 1, her method 1. -/
namespace start1
open Jvm.ClassFile
def u (s : String) : CpInfo := .utf8 (stringToUtf16 s)
/-- a pool by its gaps: so many unusable entries, then the entry; so many at the end -/
def gap : Nat → List CpInfo → List CpInfo
  | 0, r => r
  | n + 1, r => .unusable :: gap n r
def poolList (es : List (Nat × CpInfo)) (last : Nat) : List CpInfo := es.foldr (fun e r => gap e.1 (e.2 :: r)) (gap last [])
def pool (es : List (Nat × CpInfo)) (last : Nat) : Array CpInfo := ⟨poolList es last⟩
def fileOf (pool : Array CpInfo) (this : Nat) (attrs : Array Attribute := #[]) (ms : Array MethodInfo := #[]) (fl : Nat := 33) (sup : Nat := 0) (ifs : Array Nat := #[]) (fds : Array FieldInfo := #[]) : ClassFile where
  minorVersion := 0
  majorVersion := 65
  constantPool := pool
  accessFlags := fl
  thisClass := this
  superClass := sup
  interfaces := ifs
  fields := fds
  methods := ms
  attributes := attrs
def plain (name : String) (sup : Option ClassId) : Class where
  name := name
  kind := .ordinary
  loader := none
  accessFlags := 33
  super := sup
  interfaces := #[]
  cf := none
  fields := #[]
  methods := #[]
  instanceTypes := #[]
  staticTypes := #[]
  resolved := #[]
  callSites := []
  init := .initialized
  statics := none
  mirror := none

def pool0 : Array CpInfo := pool [(5, u "<init>"), (0, u "()V"), (1, .class_ 10), (1, u "java/lang/Object")] 113

def k0c0 : Code := { maxStack := 0, maxLocals := 1, code := object_method_1_code, exceptionTable := #[], attributes := #[] }
def k0m0 : Method := { name := "<init>", desc := "()V", sig := { parameters := [], returnType := none }, accessFlags := 1, code := some k0c0 }
/-- java/lang/Object -/
def k0 : Class := { plain "java/lang/Object" none with
  accessFlags := 33
  interfaces := #[]
  cf := some (fileOf pool0 8 #[] #[{ accessFlags := 1, nameIndex := 5, descriptorIndex := 6, attributes := #[] }] 33 0 #[] #[])
  fields := #[]
  methods := #[k0m0]
  instanceTypes := #[]
  staticTypes := #[]
  resolved := Array.replicate 124 none
  statics := none }

def pool1 : Array CpInfo := pool [(2, .class_ 4), (1, u "java/lang/Object"), (0, u "<init>"), (0, u "()V"), (0, .methodref 8 9), (0, .class_ 10), (0, .nameAndType 11 12), (0, u "com/example/hallstatt/hallstatt/InvalidValueExceptionWithinPinLaw"), (0, u "mk"), (0, u "(III)Ljava/lang/String;"), (0, .class_ 14), (0, u "com/example/hallstatt/hallstatt/InvalidValueException"), (0, .methodref 13 16), (0, .nameAndType 5 17), (0, u "(Ljava/lang/String;)V"), (0, .methodref 13 19), (0, .nameAndType 20 21), (0, u "within"), (0, u "(Ljava/lang/String;)Lcom/example/hallstatt/hallstatt/InvalidValueException;"), (0, .methodref 13 23), (0, .nameAndType 24 25), (0, u "getMessage"), (0, u "()Ljava/lang/String;"), (0, .methodref 27 28), (0, .class_ 29), (0, .nameAndType 30 31), (0, u "java/lang/String"), (0, u "length"), (0, u "()I"), (0, .methodref 8 33), (0, .nameAndType 34 35), (0, u "at"), (0, u "(Ljava/lang/String;Ljava/lang/String;Ljava/lang/String;I)Z"), (0, .methodref 27 37), (0, .nameAndType 38 39), (0, u "equals"), (0, u "(Ljava/lang/Object;)Z"), (0, .methodref 27 41), (0, .nameAndType 5 42), (0, u "([C)V"), (0, .methodref 27 44), (0, .nameAndType 45 46), (0, u "valueOf"), (0, u "(C)Ljava/lang/String;"), (0, .methodref 27 48), (0, .nameAndType 49 50), (0, u "charAt"), (0, u "(I)C"), (2, u "law"), (0, u "(III)Z")] 3

def k1m0 : Method := { name := "<init>", desc := "()V", sig := { parameters := [], returnType := none }, accessFlags := 1, code := none }
def k1c1 : Code := { maxStack := 4, maxLocals := 10, code := code, exceptionTable := #[], attributes := #[] }
def k1m1 : Method := { name := "law", desc := "(III)Z", sig := { parameters := [.int, .int, .int], returnType := some .boolean }, accessFlags := 9, code := some k1c1 }
def k1c2 : Code := { maxStack := 6, maxLocals := 3, code := method_3_code, exceptionTable := #[], attributes := #[] }
def k1m2 : Method := { name := "mk", desc := "(III)Ljava/lang/String;", sig := { parameters := [.int, .int, .int], returnType := some (.object "java/lang/String") }, accessFlags := 10, code := some k1c2 }
def k1c3 : Code := { maxStack := 3, maxLocals := 5, code := method_4_code, exceptionTable := #[], attributes := #[] }
def k1m3 : Method := { name := "at", desc := "(Ljava/lang/String;Ljava/lang/String;Ljava/lang/String;I)Z", sig := { parameters := [(.object "java/lang/String"), (.object "java/lang/String"), (.object "java/lang/String"), .int], returnType := some .boolean }, accessFlags := 10, code := some k1c3 }
/-- com/example/hallstatt/hallstatt/InvalidValueExceptionWithinPinLaw -/
def k1 : Class := { plain "com/example/hallstatt/hallstatt/InvalidValueExceptionWithinPinLaw" (some 0) with
  accessFlags := 49
  interfaces := #[]
  cf := some (fileOf pool1 8 #[] #[{ accessFlags := 1, nameIndex := 5, descriptorIndex := 6, attributes := #[] }, { accessFlags := 9, nameIndex := 53, descriptorIndex := 54, attributes := #[] }, { accessFlags := 10, nameIndex := 11, descriptorIndex := 12, attributes := #[] }, { accessFlags := 10, nameIndex := 34, descriptorIndex := 35, attributes := #[] }] 49 2 #[] #[])
  fields := #[]
  methods := #[k1m0, k1m1, k1m2, k1m3]
  instanceTypes := #[]
  staticTypes := #[]
  resolved := Array.replicate 58 none
  statics := none }

def pool2 : Array CpInfo := pool [(1, .class_ 2), (0, u "java/io/Serializable"), (0, .class_ 4), (0, u "java/lang/Object")] 2

/-- java/io/Serializable -/
def k2 : Class := { plain "java/io/Serializable" (some 0) with
  accessFlags := 1537
  interfaces := #[]
  cf := some (fileOf pool2 1 #[] #[] 1537 3 #[] #[])
  fields := #[]
  methods := #[]
  instanceTypes := #[]
  staticTypes := #[]
  resolved := Array.replicate 7 none
  statics := none }

def pool3 : Array CpInfo := pool [(1, .class_ 2), (0, u "java/lang/Comparable"), (0, .class_ 4), (0, u "java/lang/Object")] 7

/-- java/lang/Comparable -/
def k3 : Class := { plain "java/lang/Comparable" (some 0) with
  accessFlags := 1537
  interfaces := #[]
  cf := some (fileOf pool3 1 #[] #[] 1537 3 #[] #[])
  fields := #[]
  methods := #[]
  instanceTypes := #[]
  staticTypes := #[]
  resolved := Array.replicate 12 none
  statics := none }

def pool4 : Array CpInfo := pool [(2, .class_ 4), (1, u "java/lang/CharSequence"), (42, .class_ 48), (0, u "java/lang/CharSequence$1CodePointIterator"), (10, .class_ 60), (0, u "java/lang/CharSequence$1CharIterator"), (5, .class_ 67), (0, u "java/lang/Object")] 63

/-- java/lang/CharSequence -/
def k4 : Class := { plain "java/lang/CharSequence" (some 0) with
  accessFlags := 1537
  interfaces := #[]
  cf := some (fileOf pool4 2 #[.nestMembers #[47, 59]] #[] 1537 66 #[] #[])
  fields := #[]
  methods := #[]
  instanceTypes := #[]
  staticTypes := #[]
  resolved := Array.replicate 131 none
  statics := none }

def pool5 : Array CpInfo := pool [(1, .class_ 2), (0, u "java/lang/constant/Constable"), (0, .class_ 4), (0, u "java/lang/Object")] 6

/-- java/lang/constant/Constable -/
def k5 : Class := { plain "java/lang/constant/Constable" (some 0) with
  accessFlags := 1537
  interfaces := #[]
  cf := some (fileOf pool5 1 #[] #[] 1537 3 #[] #[])
  fields := #[]
  methods := #[]
  instanceTypes := #[]
  staticTypes := #[]
  resolved := Array.replicate 11 none
  statics := none }

def pool6 : Array CpInfo := pool [(1, .class_ 2), (0, u "java/lang/constant/ConstantDesc"), (0, .class_ 4), (0, u "java/lang/Object")] 32

/-- java/lang/constant/ConstantDesc -/
def k6 : Class := { plain "java/lang/constant/ConstantDesc" (some 0) with
  accessFlags := 1537
  interfaces := #[]
  cf := some (fileOf pool6 1 #[] #[] 1537 3 #[] #[])
  fields := #[]
  methods := #[]
  instanceTypes := #[]
  staticTypes := #[]
  resolved := Array.replicate 37 none
  statics := none }

def pool7 : Array CpInfo := pool [(1, .methodref 2 3), (0, .class_ 4), (0, .nameAndType 5 6), (0, u "java/lang/Object"), (0, u "<init>"), (0, u "()V"), (0, .string 8), (0, u ""), (0, .fieldref 10 11), (0, .class_ 12), (0, .nameAndType 13 14), (0, u "java/lang/String"), (0, u "value"), (0, u "[B"), (0, .fieldref 10 16), (0, .nameAndType 17 18), (0, u "coder"), (0, u "B"), (2, u "hash"), (0, u "I"), (2, u "hashIsZero"), (0, u "Z"), (0, .methodref 10 28), (0, .nameAndType 5 29), (0, u "([CIILjava/lang/Void;)V"), (8, .fieldref 10 39), (0, .nameAndType 40 26), (0, u "COMPACT_STRINGS"), (1, .class_ 44), (1, u "java/lang/StringUTF16"), (0, u "compress"), (1, .methodref 42 48), (0, .nameAndType 49 50), (0, u "coderFromArrayLen"), (0, u "([BI)B"), (2, u "toBytes"), (0, .methodref 55 56), (0, .class_ 57), (0, .nameAndType 58 59), (0, u "java/util/Arrays"), (0, u "copyOfRange"), (0, u "([BII)[B"), (47, .class_ 109), (1, u "java/lang/StringLatin1"), (32, u "()Z"), (34, .methodref 42 178), (0, .nameAndType 45 179), (0, u "([CII)[B"), (13, .class_ 195), (1, u "java/lang/System"), (13, .methodref 10 210), (0, .nameAndType 5 211), (0, u "([BB)V"), (0, .methodref 193 213), (0, .nameAndType 214 215), (0, u "arraycopy"), (0, u "(Ljava/lang/Object;ILjava/lang/Object;II)V"), (118, u "()I"), (0, .methodref 10 336), (0, .nameAndType 17 337), (0, u "()B"), (2, u "()[B"), (22, u "([BI)C"), (5, u "(C)Z"), (21, u "(II)V"), (35, u "(I)C"), (61, .methodref 10 490), (0, .nameAndType 5 491), (0, u "(Ljava/lang/AbstractStringBuilder;Ljava/lang/Void;)V"), (0, .methodref 10 493), (0, .nameAndType 494 142), (0, u "isLatin1"), (0, .methodref 107 496), (0, .nameAndType 497 363), (0, u "charAt"), (3, u "checkIndex"), (4, .nameAndType 507 334), (0, u "length"), (24, u "getBytes"), (10, u "equals"), (5, .methodref 550 506), (0, .class_ 551), (0, u "java/lang/AbstractStringBuilder"), (0, .methodref 550 553), (0, .nameAndType 554 340), (0, u "getValue"), (18, u "(Ljava/lang/Object;)Z"), (1, .class_ 576), (0, u "java/lang/CharSequence"), (22, u "CASE_INSENSITIVE_ORDER"), (0, u "Ljava/util/Comparator;"), (181, u "valueOf"), (0, u "(C)Ljava/lang/String;"), (37, u "([BIB)V"), (188, u "([C)V"), (4, .methodref 107 1016), (0, .nameAndType 1017 369), (0, u "canEncode"), (0, .methodref 107 1019), (0, .nameAndType 53 1020), (0, u "(C)[B"), (26, .methodref 550 493), (5, .fieldref 1054 1055), (0, .class_ 1056), (0, .nameAndType 1057 1058), (0, u "jdk/internal/util/Preconditions"), (0, u "SIOOBE_FORMATTER"), (0, u "Ljava/util/function/BiFunction;"), (0, .methodref 1054 1060), (0, .nameAndType 501 1061), (0, u "(IILjava/util/function/BiFunction;)I"), (39, u "serialPersistentFields"), (0, u "[Ljava/io/ObjectStreamField;"), (0, .class_ 1104), (0, u "java/lang/String$CaseInsensitiveComparator"), (1, .class_ 1107), (0, u "java/io/Serializable"), (0, .class_ 1109), (0, u "java/lang/Comparable"), (0, .class_ 1111), (0, u "java/lang/constant/Constable"), (0, .class_ 1113), (0, u "java/lang/constant/ConstantDesc"), (2, u "serialVersionUID"), (0, u "J"), (3, u "REPL"), (0, u "C"), (2, u "LATIN1"), (1, u "UTF16"), (105, u "(Ljava/lang/StringBuilder;)V")] 217

def k7m0 : Method := { name := "<init>", desc := "()V", sig := { parameters := [], returnType := none }, accessFlags := 1, code := none }
def k7c1 : Code := { maxStack := 5, maxLocals := 2, code := jdk_42_method_3_code, exceptionTable := #[], attributes := #[] }
def k7m1 : Method := { name := "<init>", desc := "([C)V", sig := { parameters := [(.array .char)], returnType := none }, accessFlags := 1, code := some k7c1 }
def k7c2 : Code := { maxStack := 3, maxLocals := 2, code := jdk_42_method_53_code, exceptionTable := #[], attributes := #[] }
def k7m2 : Method := { name := "<init>", desc := "(Ljava/lang/StringBuilder;)V", sig := { parameters := [(.object "java/lang/StringBuilder")], returnType := none }, accessFlags := 1, code := some k7c2 }
def k7c3 : Code := { maxStack := 2, maxLocals := 1, code := jdk_42_method_54_code, exceptionTable := #[], attributes := #[] }
def k7m3 : Method := { name := "length", desc := "()I", sig := { parameters := [], returnType := some .int }, accessFlags := 1, code := some k7c3 }
def k7c4 : Code := { maxStack := 2, maxLocals := 2, code := jdk_42_method_56_code, exceptionTable := #[], attributes := #[] }
def k7m4 : Method := { name := "charAt", desc := "(I)C", sig := { parameters := [.int], returnType := some .char }, accessFlags := 1, code := some k7c4 }
def k7c5 : Code := { maxStack := 2, maxLocals := 3, code := jdk_42_method_66_code, exceptionTable := #[], attributes := #[] }
def k7m5 : Method := { name := "equals", desc := "(Ljava/lang/Object;)Z", sig := { parameters := [(.object "java/lang/Object")], returnType := some .boolean }, accessFlags := 1, code := some k7c5 }
def k7c6 : Code := { maxStack := 4, maxLocals := 1, code := jdk_42_method_139_code, exceptionTable := #[], attributes := #[] }
def k7m6 : Method := { name := "valueOf", desc := "(C)Ljava/lang/String;", sig := { parameters := [.char], returnType := some (.object "java/lang/String") }, accessFlags := 9, code := some k7c6 }
def k7c7 : Code := { maxStack := 5, maxLocals := 4, code := jdk_42_method_147_code, exceptionTable := #[], attributes := #[] }
def k7m7 : Method := { name := "getBytes", desc := "([BIB)V", sig := { parameters := [(.array .byte), .int, .byte], returnType := none }, accessFlags := 0, code := some k7c7 }
def k7c8 : Code := { maxStack := 4, maxLocals := 6, code := jdk_42_method_149_code, exceptionTable := #[], attributes := #[] }
def k7m8 : Method := { name := "<init>", desc := "([CIILjava/lang/Void;)V", sig := { parameters := [(.array .char), .int, .int, (.object "java/lang/Void")], returnType := none }, accessFlags := 2, code := some k7c8 }
def k7c9 : Code := { maxStack := 5, maxLocals := 5, code := jdk_42_method_150_code, exceptionTable := #[], attributes := #[] }
def k7m9 : Method := { name := "<init>", desc := "(Ljava/lang/AbstractStringBuilder;Ljava/lang/Void;)V", sig := { parameters := [(.object "java/lang/AbstractStringBuilder"), (.object "java/lang/Void")], returnType := none }, accessFlags := 0, code := some k7c9 }
def k7c10 : Code := { maxStack := 2, maxLocals := 3, code := jdk_42_method_151_code, exceptionTable := #[], attributes := #[] }
def k7m10 : Method := { name := "<init>", desc := "([BB)V", sig := { parameters := [(.array .byte), .byte], returnType := none }, accessFlags := 0, code := some k7c10 }
def k7c11 : Code := { maxStack := 1, maxLocals := 1, code := jdk_42_method_152_code, exceptionTable := #[], attributes := #[] }
def k7m11 : Method := { name := "coder", desc := "()B", sig := { parameters := [], returnType := some .byte }, accessFlags := 0, code := some k7c11 }
def k7c12 : Code := { maxStack := 1, maxLocals := 1, code := jdk_42_method_154_code, exceptionTable := #[], attributes := #[] }
def k7m12 : Method := { name := "isLatin1", desc := "()Z", sig := { parameters := [], returnType := some .boolean }, accessFlags := 0, code := some k7c12 }
def k7c13 : Code := { maxStack := 3, maxLocals := 2, code := jdk_42_method_155_code, exceptionTable := #[], attributes := #[] }
def k7m13 : Method := { name := "checkIndex", desc := "(II)V", sig := { parameters := [.int, .int], returnType := none }, accessFlags := 8, code := some k7c13 }
/-- java/lang/String -/
def k7 : Class := { plain "java/lang/String" (some 0) with
  accessFlags := 49
  interfaces := #[2, 3, 4, 5, 6]
  cf := some (fileOf pool7 10 #[.nestMembers #[1103]] #[{ accessFlags := 1, nameIndex := 5, descriptorIndex := 6, attributes := #[] }, { accessFlags := 1, nameIndex := 5, descriptorIndex := 1010, attributes := #[] }, { accessFlags := 1, nameIndex := 5, descriptorIndex := 1233, attributes := #[] }, { accessFlags := 1, nameIndex := 507, descriptorIndex := 334, attributes := #[] }, { accessFlags := 1, nameIndex := 497, descriptorIndex := 427, attributes := #[] }, { accessFlags := 1, nameIndex := 543, descriptorIndex := 573, attributes := #[] }, { accessFlags := 9, nameIndex := 782, descriptorIndex := 783, attributes := #[] }, { accessFlags := 0, nameIndex := 532, descriptorIndex := 821, attributes := #[] }, { accessFlags := 2, nameIndex := 5, descriptorIndex := 29, attributes := #[] }, { accessFlags := 0, nameIndex := 5, descriptorIndex := 491, attributes := #[] }, { accessFlags := 0, nameIndex := 5, descriptorIndex := 211, attributes := #[] }, { accessFlags := 0, nameIndex := 17, descriptorIndex := 337, attributes := #[] }, { accessFlags := 0, nameIndex := 494, descriptorIndex := 142, attributes := #[] }, { accessFlags := 8, nameIndex := 501, descriptorIndex := 391, attributes := #[] }] 49 2 #[1106, 1108, 575, 1110, 1112] #[{ accessFlags := 18, nameIndex := 13, descriptorIndex := 14, attributes := #[] }, { accessFlags := 18, nameIndex := 17, descriptorIndex := 18, attributes := #[] }, { accessFlags := 2, nameIndex := 21, descriptorIndex := 22, attributes := #[] }, { accessFlags := 2, nameIndex := 25, descriptorIndex := 26, attributes := #[] }, { accessFlags := 26, nameIndex := 1116, descriptorIndex := 1117, attributes := #[] }, { accessFlags := 24, nameIndex := 40, descriptorIndex := 26, attributes := #[] }, { accessFlags := 26, nameIndex := 1101, descriptorIndex := 1102, attributes := #[] }, { accessFlags := 26, nameIndex := 1121, descriptorIndex := 1122, attributes := #[] }, { accessFlags := 25, nameIndex := 599, descriptorIndex := 600, attributes := #[] }, { accessFlags := 24, nameIndex := 1125, descriptorIndex := 18, attributes := #[] }, { accessFlags := 24, nameIndex := 1127, descriptorIndex := 18, attributes := #[] }])
  fields := #[{ name := "value", type := (.array .byte), accessFlags := 18, slot := 0, constantValue := 0 }, { name := "coder", type := .byte, accessFlags := 18, slot := 1, constantValue := 0 }, { name := "hash", type := .int, accessFlags := 2, slot := 2, constantValue := 0 }, { name := "hashIsZero", type := .boolean, accessFlags := 2, slot := 3, constantValue := 0 }, { name := "serialVersionUID", type := .long, accessFlags := 26, slot := 0, constantValue := 0 }, { name := "COMPACT_STRINGS", type := .boolean, accessFlags := 24, slot := 1, constantValue := 0 }, { name := "serialPersistentFields", type := (.array (.object "java/io/ObjectStreamField")), accessFlags := 26, slot := 2, constantValue := 0 }, { name := "REPL", type := .char, accessFlags := 26, slot := 3, constantValue := 0 }, { name := "CASE_INSENSITIVE_ORDER", type := (.object "java/util/Comparator"), accessFlags := 25, slot := 4, constantValue := 0 }, { name := "LATIN1", type := .byte, accessFlags := 24, slot := 5, constantValue := 0 }, { name := "UTF16", type := .byte, accessFlags := 24, slot := 6, constantValue := 0 }]
  methods := #[k7m0, k7m1, k7m2, k7m3, k7m4, k7m5, k7m6, k7m7, k7m8, k7m9, k7m10, k7m11, k7m12, k7m13]
  instanceTypes := #[(.array .byte), .byte, .int, .boolean]
  staticTypes := #[.long, .boolean, (.array (.object "java/io/ObjectStreamField")), .char, (.object "java/util/Comparator"), .byte, .byte]
  resolved := Array.replicate 1451 none
  statics := some 0 }

def pool8 : Array CpInfo := pool [(6, .class_ 8), (1, u "java/lang/Object"), (0, u "<init>"), (0, u "()V"), (1, .class_ 14), (1, u "java/lang/StringUTF16"), (31, u "$assertionsDisabled"), (0, u "Z"), (13, u "HI_BYTE_SHIFT"), (0, u "I"), (2, u "LO_BYTE_SHIFT"), (49, .methodref 12 116), (0, .nameAndType 117 118), (0, u "compress"), (0, u "([CI[BII)I"), (3, u "([CII)[B"), (138, u "coderFromArrayLen"), (0, u "([BI)B"), (106, .class_ 371), (1, u "java/lang/StringUTF16$LinesSpliterator"), (58, u "MAX_LENGTH"), (196, .class_ 628), (0, u "java/lang/StringUTF16$CodePointsSpliterator"), (0, .class_ 630), (0, u "java/lang/StringUTF16$CharsSpliterator")] 4

def k8m0 : Method := { name := "<init>", desc := "()V", sig := { parameters := [], returnType := none }, accessFlags := 0, code := none }
def k8c1 : Code := { maxStack := 2, maxLocals := 2, code := jdk_52_method_15_code, exceptionTable := #[], attributes := #[] }
def k8m1 : Method := { name := "coderFromArrayLen", desc := "([BI)B", sig := { parameters := [(.array .byte), .int], returnType := some .byte }, accessFlags := 8, code := some k8c1 }
def k8c2 : Code := { maxStack := 5, maxLocals := 6, code := jdk_52_method_16_code, exceptionTable := #[], attributes := #[] }
def k8m2 : Method := { name := "compress", desc := "([CII)[B", sig := { parameters := [(.array .char), .int, .int], returnType := some (.array .byte) }, accessFlags := 9, code := some k8c2 }
def k8c3 : Code := { maxStack := 3, maxLocals := 7, code := jdk_52_method_21_code, exceptionTable := #[], attributes := #[] }
def k8m3 : Method := { name := "compress", desc := "([CI[BII)I", sig := { parameters := [(.array .char), .int, (.array .byte), .int, .int], returnType := some .int }, accessFlags := 9, code := some k8c3 }
/-- java/lang/StringUTF16 -/
def k8 : Class := { plain "java/lang/StringUTF16" (some 0) with
  accessFlags := 48
  interfaces := #[]
  cf := some (fileOf pool8 12 #[.nestMembers #[627, 629, 369]] #[{ accessFlags := 0, nameIndex := 9, descriptorIndex := 10, attributes := #[] }, { accessFlags := 8, nameIndex := 261, descriptorIndex := 262, attributes := #[] }, { accessFlags := 9, nameIndex := 117, descriptorIndex := 122, attributes := #[] }, { accessFlags := 9, nameIndex := 117, descriptorIndex := 118, attributes := #[] }] 48 6 #[] #[{ accessFlags := 26, nameIndex := 61, descriptorIndex := 62, attributes := #[] }, { accessFlags := 26, nameIndex := 65, descriptorIndex := 62, attributes := #[] }, { accessFlags := 24, nameIndex := 430, descriptorIndex := 62, attributes := #[] }, { accessFlags := 4120, nameIndex := 46, descriptorIndex := 47, attributes := #[] }])
  fields := #[{ name := "HI_BYTE_SHIFT", type := .int, accessFlags := 26, slot := 0, constantValue := 0 }, { name := "LO_BYTE_SHIFT", type := .int, accessFlags := 26, slot := 1, constantValue := 0 }, { name := "MAX_LENGTH", type := .int, accessFlags := 24, slot := 2, constantValue := 0 }, { name := "$assertionsDisabled", type := .boolean, accessFlags := 4120, slot := 3, constantValue := 0 }]
  methods := #[k8m0, k8m1, k8m2, k8m3]
  instanceTypes := #[]
  staticTypes := #[.int, .int, .int, .boolean]
  resolved := Array.replicate 635 none
  statics := none }

def pool9 : Array CpInfo := pool [(1, .methodref 2 3), (0, .class_ 4), (0, .nameAndType 5 6), (0, u "java/lang/Object"), (0, u "<init>"), (0, u "()V"), (0, .fieldref 8 9), (0, .class_ 10), (0, .nameAndType 11 12), (0, u "java/lang/Throwable"), (0, u "cause"), (0, u "Ljava/lang/Throwable;"), (0, .fieldref 8 14), (0, .nameAndType 15 16), (0, u "UNASSIGNED_STACK"), (0, u "[Ljava/lang/StackTraceElement;"), (0, .fieldref 8 18), (0, .nameAndType 19 16), (0, u "stackTrace"), (0, .fieldref 8 21), (0, .nameAndType 22 23), (0, u "SUPPRESSED_SENTINEL"), (0, u "Ljava/util/List;"), (0, .fieldref 8 25), (0, .nameAndType 26 23), (0, u "suppressedExceptions"), (0, .methodref 8 28), (0, .nameAndType 29 30), (0, u "fillInStackTrace"), (0, u "()Ljava/lang/Throwable;"), (0, .fieldref 8 32), (0, .nameAndType 33 34), (0, u "detailMessage"), (0, u "Ljava/lang/String;"), (3, u "()Ljava/lang/String;"), (2, u "getMessage"), (51, .class_ 94), (0, u "java/lang/Throwable$WrappedPrintStream"), (6, .class_ 103), (1, u "java/lang/Throwable$PrintStreamOrWriter"), (61, u "$assertionsDisabled"), (0, u "Z"), (26, .class_ 194), (0, u "java/lang/Throwable$WrappedPrintWriter"), (3, .fieldref 8 199), (0, .nameAndType 200 201), (0, u "backtrace"), (0, u "Ljava/lang/Object;"), (0, .methodref 8 203), (0, .nameAndType 29 204), (0, u "(I)Ljava/lang/Throwable;"), (6, u "depth"), (0, u "I"), (10, u "(Ljava/lang/String;)V"), (45, .class_ 271), (1, u "java/lang/Throwable$SentinelHolder"), (32, u "EMPTY_THROWABLE_ARRAY"), (0, u "[Ljava/lang/Throwable;"), (12, .class_ 319), (0, u "java/io/Serializable"), (0, u "serialVersionUID"), (0, u "J"), (5, u "NULL_CAUSE_MESSAGE"), (0, u "SELF_SUPPRESSION_MESSAGE"), (0, u "CAUSE_CAPTION"), (0, u "SUPPRESSED_CAPTION")] 73

def k9c0 : Code := { maxStack := 2, maxLocals := 1, code := jdk_78_method_1_code, exceptionTable := #[], attributes := #[] }
def k9m0 : Method := { name := "<init>", desc := "()V", sig := { parameters := [], returnType := none }, accessFlags := 1, code := some k9c0 }
def k9c1 : Code := { maxStack := 2, maxLocals := 2, code := jdk_78_method_2_code, exceptionTable := #[], attributes := #[] }
def k9m1 : Method := { name := "<init>", desc := "(Ljava/lang/String;)V", sig := { parameters := [(.object "java/lang/String")], returnType := none }, accessFlags := 1, code := some k9c1 }
def k9c2 : Code := { maxStack := 1, maxLocals := 1, code := jdk_78_method_6_code, exceptionTable := #[], attributes := #[] }
def k9m2 : Method := { name := "getMessage", desc := "()Ljava/lang/String;", sig := { parameters := [], returnType := some (.object "java/lang/String") }, accessFlags := 1, code := some k9c2 }
def k9c3 : Code := { maxStack := 2, maxLocals := 1, code := ⟨#[0x2a, 0xb4, 0x00, 0x11, 0xc7, 0x00, 0x0a, 0x2a, 0xb4, 0x00, 0xc6, 0xc6, 0x00, 0x10, 0x2a, 0x03, 0xb6, 0x00, 0xca, 0x57, 0x2a, 0xb2, 0x00, 0x0d, 0xb5, 0x00, 0x11, 0x2a, 0xb0]⟩, exceptionTable := #[], attributes := #[] }
def k9m3 : Method := { name := "fillInStackTrace", desc := "()Ljava/lang/Throwable;", sig := { parameters := [], returnType := some (.object "java/lang/Throwable") }, accessFlags := 33, code := some k9c3 }
def k9m4 : Method := { name := "fillInStackTrace", desc := "(I)Ljava/lang/Throwable;", sig := { parameters := [.int], returnType := some (.object "java/lang/Throwable") }, accessFlags := 258, code := none }
/-- java/lang/Throwable -/
def k9 : Class := { plain "java/lang/Throwable" (some 0) with
  accessFlags := 33
  interfaces := #[2]
  cf := some (fileOf pool9 8 #[.nestMembers #[193, 93, 101, 269]] #[{ accessFlags := 1, nameIndex := 5, descriptorIndex := 6, attributes := #[] }, { accessFlags := 1, nameIndex := 5, descriptorIndex := 223, attributes := #[] }, { accessFlags := 1, nameIndex := 41, descriptorIndex := 38, attributes := #[] }, { accessFlags := 33, nameIndex := 29, descriptorIndex := 30, attributes := #[] }, { accessFlags := 258, nameIndex := 29, descriptorIndex := 204, attributes := #[] }] 33 2 #[318] #[{ accessFlags := 26, nameIndex := 320, descriptorIndex := 321, attributes := #[] }, { accessFlags := 130, nameIndex := 200, descriptorIndex := 201, attributes := #[] }, { accessFlags := 2, nameIndex := 33, descriptorIndex := 34, attributes := #[] }, { accessFlags := 26, nameIndex := 15, descriptorIndex := 16, attributes := #[] }, { accessFlags := 2, nameIndex := 11, descriptorIndex := 12, attributes := #[] }, { accessFlags := 2, nameIndex := 19, descriptorIndex := 16, attributes := #[] }, { accessFlags := 130, nameIndex := 211, descriptorIndex := 212, attributes := #[] }, { accessFlags := 26, nameIndex := 22, descriptorIndex := 23, attributes := #[] }, { accessFlags := 2, nameIndex := 26, descriptorIndex := 23, attributes := #[] }, { accessFlags := 26, nameIndex := 327, descriptorIndex := 34, attributes := #[] }, { accessFlags := 26, nameIndex := 328, descriptorIndex := 34, attributes := #[] }, { accessFlags := 26, nameIndex := 329, descriptorIndex := 34, attributes := #[] }, { accessFlags := 26, nameIndex := 330, descriptorIndex := 34, attributes := #[] }, { accessFlags := 26, nameIndex := 304, descriptorIndex := 305, attributes := #[] }, { accessFlags := 4120, nameIndex := 165, descriptorIndex := 166, attributes := #[] }])
  fields := #[{ name := "serialVersionUID", type := .long, accessFlags := 26, slot := 0, constantValue := 0 }, { name := "backtrace", type := (.object "java/lang/Object"), accessFlags := 130, slot := 0, constantValue := 0 }, { name := "detailMessage", type := (.object "java/lang/String"), accessFlags := 2, slot := 1, constantValue := 0 }, { name := "UNASSIGNED_STACK", type := (.array (.object "java/lang/StackTraceElement")), accessFlags := 26, slot := 1, constantValue := 0 }, { name := "cause", type := (.object "java/lang/Throwable"), accessFlags := 2, slot := 2, constantValue := 0 }, { name := "stackTrace", type := (.array (.object "java/lang/StackTraceElement")), accessFlags := 2, slot := 3, constantValue := 0 }, { name := "depth", type := .int, accessFlags := 130, slot := 4, constantValue := 0 }, { name := "SUPPRESSED_SENTINEL", type := (.object "java/util/List"), accessFlags := 26, slot := 2, constantValue := 0 }, { name := "suppressedExceptions", type := (.object "java/util/List"), accessFlags := 2, slot := 5, constantValue := 0 }, { name := "NULL_CAUSE_MESSAGE", type := (.object "java/lang/String"), accessFlags := 26, slot := 3, constantValue := 0 }, { name := "SELF_SUPPRESSION_MESSAGE", type := (.object "java/lang/String"), accessFlags := 26, slot := 4, constantValue := 0 }, { name := "CAUSE_CAPTION", type := (.object "java/lang/String"), accessFlags := 26, slot := 5, constantValue := 0 }, { name := "SUPPRESSED_CAPTION", type := (.object "java/lang/String"), accessFlags := 26, slot := 6, constantValue := 0 }, { name := "EMPTY_THROWABLE_ARRAY", type := (.array (.object "java/lang/Throwable")), accessFlags := 26, slot := 7, constantValue := 0 }, { name := "$assertionsDisabled", type := .boolean, accessFlags := 4120, slot := 8, constantValue := 0 }]
  methods := #[k9m0, k9m1, k9m2, k9m3, k9m4]
  instanceTypes := #[(.object "java/lang/Object"), (.object "java/lang/String"), (.object "java/lang/Throwable"), (.array (.object "java/lang/StackTraceElement")), .int, (.object "java/util/List")]
  staticTypes := #[.long, (.array (.object "java/lang/StackTraceElement")), (.object "java/util/List"), (.object "java/lang/String"), (.object "java/lang/String"), (.object "java/lang/String"), (.object "java/lang/String"), (.array (.object "java/lang/Throwable")), .boolean]
  resolved := Array.replicate 404 none
  statics := some 1 }

def pool10 : Array CpInfo := pool [(2, .class_ 4), (1, u "java/lang/Throwable"), (0, u "<init>"), (0, u "()V"), (0, .methodref 2 8), (0, .nameAndType 5 9), (0, u "(Ljava/lang/String;)V"), (9, .class_ 20), (0, u "java/lang/Exception"), (0, u "serialVersionUID"), (0, u "J")] 17

def k10m0 : Method := { name := "<init>", desc := "()V", sig := { parameters := [], returnType := none }, accessFlags := 1, code := none }
def k10c1 : Code := { maxStack := 2, maxLocals := 2, code := jdk_59_method_2_code, exceptionTable := #[], attributes := #[] }
def k10m1 : Method := { name := "<init>", desc := "(Ljava/lang/String;)V", sig := { parameters := [(.object "java/lang/String")], returnType := none }, accessFlags := 1, code := some k10c1 }
/-- java/lang/Exception -/
def k10 : Class := { plain "java/lang/Exception" (some 9) with
  accessFlags := 33
  interfaces := #[]
  cf := some (fileOf pool10 19 #[] #[{ accessFlags := 1, nameIndex := 5, descriptorIndex := 6, attributes := #[] }, { accessFlags := 1, nameIndex := 5, descriptorIndex := 9, attributes := #[] }] 33 2 #[] #[{ accessFlags := 24, nameIndex := 21, descriptorIndex := 22, attributes := #[] }])
  fields := #[{ name := "serialVersionUID", type := .long, accessFlags := 24, slot := 0, constantValue := 0 }]
  methods := #[k10m0, k10m1]
  instanceTypes := #[(.object "java/lang/Object"), (.object "java/lang/String"), (.object "java/lang/Throwable"), (.array (.object "java/lang/StackTraceElement")), .int, (.object "java/util/List")]
  staticTypes := #[.long]
  resolved := Array.replicate 40 none
  statics := none }

def pool11 : Array CpInfo := pool [(2, .class_ 4), (1, u "java/lang/Exception"), (0, u "<init>"), (0, u "()V"), (0, .methodref 2 8), (0, .nameAndType 5 9), (0, u "(Ljava/lang/String;)V"), (9, .class_ 20), (0, u "java/lang/RuntimeException"), (0, u "serialVersionUID"), (0, u "J")] 17

def k11m0 : Method := { name := "<init>", desc := "()V", sig := { parameters := [], returnType := none }, accessFlags := 1, code := none }
def k11c1 : Code := { maxStack := 2, maxLocals := 2, code := jdk_58_method_2_code, exceptionTable := #[], attributes := #[] }
def k11m1 : Method := { name := "<init>", desc := "(Ljava/lang/String;)V", sig := { parameters := [(.object "java/lang/String")], returnType := none }, accessFlags := 1, code := some k11c1 }
/-- java/lang/RuntimeException -/
def k11 : Class := { plain "java/lang/RuntimeException" (some 10) with
  accessFlags := 33
  interfaces := #[]
  cf := some (fileOf pool11 19 #[] #[{ accessFlags := 1, nameIndex := 5, descriptorIndex := 6, attributes := #[] }, { accessFlags := 1, nameIndex := 5, descriptorIndex := 9, attributes := #[] }] 33 2 #[] #[{ accessFlags := 24, nameIndex := 21, descriptorIndex := 22, attributes := #[] }])
  fields := #[{ name := "serialVersionUID", type := .long, accessFlags := 24, slot := 0, constantValue := 0 }]
  methods := #[k11m0, k11m1]
  instanceTypes := #[(.object "java/lang/Object"), (.object "java/lang/String"), (.object "java/lang/Throwable"), (.array (.object "java/lang/StackTraceElement")), .int, (.object "java/util/List")]
  staticTypes := #[.long]
  resolved := Array.replicate 40 none
  statics := none }

def pool12 : Array CpInfo := pool [(2, .class_ 4), (1, u "java/lang/RuntimeException"), (0, u "<init>"), (0, u "()V"), (0, .methodref 2 8), (0, .nameAndType 5 9), (0, u "(Ljava/lang/String;)V"), (6, .class_ 17), (0, u "java/lang/IllegalArgumentException"), (0, u "serialVersionUID"), (0, u "J")] 15

def k12m0 : Method := { name := "<init>", desc := "()V", sig := { parameters := [], returnType := none }, accessFlags := 1, code := none }
def k12c1 : Code := { maxStack := 2, maxLocals := 2, code := jdk_57_method_2_code, exceptionTable := #[], attributes := #[] }
def k12m1 : Method := { name := "<init>", desc := "(Ljava/lang/String;)V", sig := { parameters := [(.object "java/lang/String")], returnType := none }, accessFlags := 1, code := some k12c1 }
/-- java/lang/IllegalArgumentException -/
def k12 : Class := { plain "java/lang/IllegalArgumentException" (some 11) with
  accessFlags := 33
  interfaces := #[]
  cf := some (fileOf pool12 16 #[] #[{ accessFlags := 1, nameIndex := 5, descriptorIndex := 6, attributes := #[] }, { accessFlags := 1, nameIndex := 5, descriptorIndex := 9, attributes := #[] }] 33 2 #[] #[{ accessFlags := 26, nameIndex := 18, descriptorIndex := 19, attributes := #[] }])
  fields := #[{ name := "serialVersionUID", type := .long, accessFlags := 26, slot := 0, constantValue := 0 }]
  methods := #[k12m0, k12m1]
  instanceTypes := #[(.object "java/lang/Object"), (.object "java/lang/String"), (.object "java/lang/Throwable"), (.array (.object "java/lang/StackTraceElement")), .int, (.object "java/util/List")]
  staticTypes := #[.long]
  resolved := Array.replicate 35 none
  statics := none }

def pool13 : Array CpInfo := pool [(1, .methodref 2 3), (0, .class_ 4), (0, .nameAndType 5 6), (0, u "java/lang/IllegalArgumentException"), (0, u "<init>"), (0, u "(Ljava/lang/String;)V"), (0, .class_ 8), (0, u "com/example/hallstatt/hallstatt/InvalidValueException"), (0, .class_ 10), (0, u "java/lang/StringBuilder"), (0, .methodref 9 12), (0, .nameAndType 5 13), (0, u "()V"), (0, .methodref 9 15), (0, .nameAndType 16 17), (0, u "append"), (0, u "(Ljava/lang/String;)Ljava/lang/StringBuilder;"), (0, .string 19), (0, u "."), (0, .methodref 7 21), (0, .nameAndType 22 23), (0, u "getMessage"), (0, u "()Ljava/lang/String;"), (0, .methodref 9 25), (0, .nameAndType 26 23), (0, u "toString"), (0, .methodref 7 3), (2, u "within"), (0, u "(Ljava/lang/String;)Lcom/example/hallstatt/hallstatt/InvalidValueException;")] 2

def k13c0 : Code := { maxStack := 2, maxLocals := 2, code := prog_3_method_1_code, exceptionTable := #[], attributes := #[] }
def k13m0 : Method := { name := "<init>", desc := "(Ljava/lang/String;)V", sig := { parameters := [(.object "java/lang/String")], returnType := none }, accessFlags := 1, code := some k13c0 }
def k13c1 : Code := { maxStack := 4, maxLocals := 2, code := prog_3_method_2_code, exceptionTable := #[], attributes := #[] }
def k13m1 : Method := { name := "within", desc := "(Ljava/lang/String;)Lcom/example/hallstatt/hallstatt/InvalidValueException;", sig := { parameters := [(.object "java/lang/String")], returnType := some (.object "com/example/hallstatt/hallstatt/InvalidValueException") }, accessFlags := 1, code := some k13c1 }
/-- com/example/hallstatt/hallstatt/InvalidValueException -/
def k13 : Class := { plain "com/example/hallstatt/hallstatt/InvalidValueException" (some 12) with
  accessFlags := 33
  interfaces := #[]
  cf := some (fileOf pool13 7 #[] #[{ accessFlags := 1, nameIndex := 5, descriptorIndex := 6, attributes := #[] }, { accessFlags := 1, nameIndex := 30, descriptorIndex := 31, attributes := #[] }] 33 2 #[] #[])
  fields := #[]
  methods := #[k13m0, k13m1]
  instanceTypes := #[(.object "java/lang/Object"), (.object "java/lang/String"), (.object "java/lang/Throwable"), (.array (.object "java/lang/StackTraceElement")), .int, (.object "java/util/List")]
  staticTypes := #[]
  resolved := Array.replicate 34 none
  statics := none }

def pool14 : Array CpInfo := pool [(1, .class_ 2), (0, u "java/lang/Appendable"), (0, .class_ 4), (0, u "java/lang/Object")] 9

/-- java/lang/Appendable -/
def k14 : Class := { plain "java/lang/Appendable" (some 0) with
  accessFlags := 1537
  interfaces := #[]
  cf := some (fileOf pool14 1 #[] #[] 1537 3 #[] #[])
  fields := #[]
  methods := #[]
  instanceTypes := #[]
  staticTypes := #[]
  resolved := Array.replicate 14 none
  statics := none }

def pool15 : Array CpInfo := pool [(1, .class_ 2), (0, u "java/lang/String"), (0, .methodref 4 5), (0, .class_ 6), (0, .nameAndType 7 8), (0, u "java/lang/Object"), (0, u "<init>"), (0, u "()V"), (1, .class_ 12), (1, u "java/lang/AbstractStringBuilder"), (0, u "EMPTYVALUE"), (0, u "[B"), (0, .fieldref 10 16), (0, .nameAndType 17 14), (0, u "value"), (0, .fieldref 1 19), (0, .nameAndType 20 21), (0, u "COMPACT_STRINGS"), (0, u "Z"), (0, .fieldref 10 23), (0, .nameAndType 24 25), (0, u "coder"), (0, u "B"), (6, .methodref 1 33), (0, .nameAndType 34 35), (0, u "length"), (0, u "()I"), (4, .methodref 1 41), (0, .nameAndType 24 42), (0, u "()B"), (2, u "append"), (0, u "(Ljava/lang/String;)Ljava/lang/AbstractStringBuilder;"), (1, .class_ 49), (0, u "java/lang/CharSequence"), (19, u "(Ljava/lang/String;)V"), (5, u "maybeLatin1"), (3, .fieldref 10 80), (0, .nameAndType 81 82), (0, u "count"), (0, u "I"), (2, u "isLatin1"), (0, u "()Z"), (13, .methodref 10 101), (0, .nameAndType 102 103), (0, u "ensureCapacityInternal"), (0, u "(I)V"), (104, .methodref 10 209), (0, .nameAndType 210 211), (0, u "putStringAt"), (0, u "(ILjava/lang/String;)V"), (5, u "inflateIfNeededFor"), (2, .nameAndType 221 222), (0, u "getBytes"), (0, u "([BIB)V"), (174, .methodref 10 398), (0, .nameAndType 217 69), (0, .methodref 1 220), (3, u "()[B"), (40, .class_ 445), (0, u "java/lang/Appendable"), (106, u "getValue")] 56

def k15m0 : Method := { name := "<init>", desc := "()V", sig := { parameters := [], returnType := none }, accessFlags := 0, code := none }
def k15c1 : Code := { maxStack := 2, maxLocals := 2, code := jdk_68_method_2_code, exceptionTable := #[], attributes := #[] }
def k15m1 : Method := { name := "<init>", desc := "(I)V", sig := { parameters := [.int], returnType := none }, accessFlags := 0, code := some k15c1 }
def k15c2 : Code := { maxStack := 1, maxLocals := 1, code := jdk_68_method_6_code, exceptionTable := #[], attributes := #[] }
def k15m2 : Method := { name := "length", desc := "()I", sig := { parameters := [], returnType := some .int }, accessFlags := 1, code := some k15c2 }
def k15c3 : Code := { maxStack := 4, maxLocals := 3, code := jdk_68_method_9_code, exceptionTable := #[], attributes := #[] }
def k15m3 : Method := { name := "ensureCapacityInternal", desc := "(I)V", sig := { parameters := [.int], returnType := none }, accessFlags := 2, code := some k15c3 }
def k15c4 : Code := { maxStack := 3, maxLocals := 3, code := jdk_68_method_22_code, exceptionTable := #[], attributes := #[] }
def k15m4 : Method := { name := "append", desc := "(Ljava/lang/String;)Ljava/lang/AbstractStringBuilder;", sig := { parameters := [(.object "java/lang/String")], returnType := some (.object "java/lang/AbstractStringBuilder") }, accessFlags := 1, code := some k15c4 }
def k15c5 : Code := { maxStack := 1, maxLocals := 1, code := jdk_68_method_64_code, exceptionTable := #[], attributes := #[] }
def k15m5 : Method := { name := "getValue", desc := "()[B", sig := { parameters := [], returnType := some (.array .byte) }, accessFlags := 16, code := some k15c5 }
def k15c6 : Code := { maxStack := 1, maxLocals := 1, code := jdk_68_method_68_code, exceptionTable := #[], attributes := #[] }
def k15m6 : Method := { name := "isLatin1", desc := "()Z", sig := { parameters := [], returnType := some .boolean }, accessFlags := 16, code := some k15c6 }
def k15c7 : Code := { maxStack := 2, maxLocals := 2, code := jdk_68_method_71_code, exceptionTable := #[], attributes := #[] }
def k15m7 : Method := { name := "inflateIfNeededFor", desc := "(Ljava/lang/String;)V", sig := { parameters := [(.object "java/lang/String")], returnType := none }, accessFlags := 2, code := some k15c7 }
def k15c8 : Code := { maxStack := 4, maxLocals := 3, code := jdk_68_method_73_code, exceptionTable := #[], attributes := #[] }
def k15m8 : Method := { name := "putStringAt", desc := "(ILjava/lang/String;)V", sig := { parameters := [.int, (.object "java/lang/String")], returnType := none }, accessFlags := 2, code := some k15c8 }
/-- java/lang/AbstractStringBuilder -/
def k15 : Class := { plain "java/lang/AbstractStringBuilder" (some 0) with
  accessFlags := 1056
  interfaces := #[14, 4]
  cf := some (fileOf pool15 10 #[] #[{ accessFlags := 0, nameIndex := 7, descriptorIndex := 8, attributes := #[] }, { accessFlags := 0, nameIndex := 7, descriptorIndex := 103, attributes := #[] }, { accessFlags := 1, nameIndex := 34, descriptorIndex := 35, attributes := #[] }, { accessFlags := 2, nameIndex := 102, descriptorIndex := 103, attributes := #[] }, { accessFlags := 1, nameIndex := 45, descriptorIndex := 46, attributes := #[] }, { accessFlags := 16, nameIndex := 552, descriptorIndex := 403, attributes := #[] }, { accessFlags := 16, nameIndex := 85, descriptorIndex := 86, attributes := #[] }, { accessFlags := 2, nameIndex := 217, descriptorIndex := 69, attributes := #[] }, { accessFlags := 2, nameIndex := 210, descriptorIndex := 211, attributes := #[] }] 1056 4 #[444, 48] #[{ accessFlags := 0, nameIndex := 17, descriptorIndex := 14, attributes := #[] }, { accessFlags := 0, nameIndex := 24, descriptorIndex := 25, attributes := #[] }, { accessFlags := 0, nameIndex := 75, descriptorIndex := 21, attributes := #[] }, { accessFlags := 0, nameIndex := 81, descriptorIndex := 82, attributes := #[] }, { accessFlags := 26, nameIndex := 13, descriptorIndex := 14, attributes := #[] }])
  fields := #[{ name := "value", type := (.array .byte), accessFlags := 0, slot := 0, constantValue := 0 }, { name := "coder", type := .byte, accessFlags := 0, slot := 1, constantValue := 0 }, { name := "maybeLatin1", type := .boolean, accessFlags := 0, slot := 2, constantValue := 0 }, { name := "count", type := .int, accessFlags := 0, slot := 3, constantValue := 0 }, { name := "EMPTYVALUE", type := (.array .byte), accessFlags := 26, slot := 0, constantValue := 0 }]
  methods := #[k15m0, k15m1, k15m2, k15m3, k15m4, k15m5, k15m6, k15m7, k15m8]
  instanceTypes := #[(.array .byte), .byte, .boolean, .int]
  staticTypes := #[(.array .byte)]
  resolved := Array.replicate 609 none
  statics := none }

def pool16 : Array CpInfo := pool [(1, .methodref 2 3), (0, .class_ 4), (0, .nameAndType 5 6), (0, u "java/lang/AbstractStringBuilder"), (0, u "<init>"), (0, u "(I)V"), (11, .class_ 20), (1, u "java/lang/String"), (3, .class_ 26), (1, u "java/lang/StringBuilder"), (0, u "append"), (0, u "(Ljava/lang/String;)Ljava/lang/StringBuilder;"), (0, .methodref 2 30), (0, .nameAndType 27 31), (0, u "(Ljava/lang/String;)Ljava/lang/AbstractStringBuilder;"), (105, .methodref 18 138), (0, .nameAndType 5 139), (0, u "(Ljava/lang/StringBuilder;)V"), (5, u "()V"), (10, u "()I"), (186, .methodref 2 344), (0, .nameAndType 345 156), (0, u "length"), (3, .class_ 350), (0, u "java/lang/Appendable"), (0, .class_ 352), (0, u "java/io/Serializable"), (0, .class_ 354), (0, u "java/lang/Comparable"), (0, .class_ 356), (0, u "java/lang/CharSequence"), (0, u "serialVersionUID"), (0, u "J"), (40, u "toString"), (0, u "()Ljava/lang/String;")] 21

def k16c0 : Code := { maxStack := 2, maxLocals := 1, code := jdk_67_method_1_code, exceptionTable := #[], attributes := #[] }
def k16m0 : Method := { name := "<init>", desc := "()V", sig := { parameters := [], returnType := none }, accessFlags := 1, code := some k16c0 }
def k16c1 : Code := { maxStack := 2, maxLocals := 2, code := jdk_67_method_7_code, exceptionTable := #[], attributes := #[] }
def k16m1 : Method := { name := "append", desc := "(Ljava/lang/String;)Ljava/lang/StringBuilder;", sig := { parameters := [(.object "java/lang/String")], returnType := some (.object "java/lang/StringBuilder") }, accessFlags := 1, code := some k16c1 }
def k16c2 : Code := { maxStack := 3, maxLocals := 1, code := jdk_67_method_42_code, exceptionTable := #[], attributes := #[] }
def k16m2 : Method := { name := "toString", desc := "()Ljava/lang/String;", sig := { parameters := [], returnType := some (.object "java/lang/String") }, accessFlags := 1, code := some k16c2 }
def k16c3 : Code := { maxStack := 1, maxLocals := 1, code := jdk_67_method_93_code, exceptionTable := #[], attributes := #[] }
def k16m3 : Method := { name := "length", desc := "()I", sig := { parameters := [], returnType := some .int }, accessFlags := 4161, code := some k16c3 }
/-- java/lang/StringBuilder -/
def k16 : Class := { plain "java/lang/StringBuilder" (some 15) with
  accessFlags := 49
  interfaces := #[14, 2, 3, 4]
  cf := some (fileOf pool16 24 #[] #[{ accessFlags := 1, nameIndex := 5, descriptorIndex := 145, attributes := #[] }, { accessFlags := 1, nameIndex := 27, descriptorIndex := 28, attributes := #[] }, { accessFlags := 1, nameIndex := 399, descriptorIndex := 400, attributes := #[] }, { accessFlags := 4161, nameIndex := 345, descriptorIndex := 156, attributes := #[] }] 49 2 #[349, 351, 353, 355] #[{ accessFlags := 24, nameIndex := 357, descriptorIndex := 358, attributes := #[] }])
  fields := #[{ name := "serialVersionUID", type := .long, accessFlags := 24, slot := 0, constantValue := 0 }]
  methods := #[k16m0, k16m1, k16m2, k16m3]
  instanceTypes := #[(.array .byte), .byte, .boolean, .int]
  staticTypes := #[.long]
  resolved := Array.replicate 422 none
  statics := none }

def pool17 : Array CpInfo := pool [(2, .class_ 4), (1, u "java/lang/Object"), (0, u "<init>"), (0, u "()V"), (1, .class_ 10), (1, u "java/lang/System"), (0, u "allowSecurityManager"), (0, u "I"), (16, u "cons"), (0, u "Ljava/io/Console;"), (77, .class_ 110), (1, u "java/lang/System$CallersHolder"), (43, u "initialErrStream"), (0, u "Ljava/io/PrintStream;"), (19, u "security"), (0, u "Ljava/lang/SecurityManager;"), (31, .class_ 209), (0, u "java/lang/System$1"), (7, u "props"), (0, u "Ljava/util/Properties;"), (2, u "lineSeparator"), (0, u "Ljava/lang/String;"), (96, .class_ 321), (1, u "java/lang/System$LoggerFinder"), (5, .class_ 328), (0, u "java/lang/System$Logger"), (67, u "err"), (2, u "out"), (91, u "notSupportedJnuEncoding"), (15, u "in"), (17, u "initialIn"), (0, u "Ljava/io/InputStream;"), (35, u "bootLayer"), (0, u "Ljava/lang/ModuleLayer;"), (99, .class_ 664), (0, u "java/lang/System$2"), (9, u "NEVER"), (2, u "MAYBE"), (49, u "arraycopy"), (0, u "(Ljava/lang/Object;ILjava/lang/Object;II)V"), (72, .class_ 802), (0, u "java/lang/System$Logger$Level")] 31

def k17m0 : Method := { name := "<init>", desc := "()V", sig := { parameters := [], returnType := none }, accessFlags := 2, code := none }
def k17m1 : Method := { name := "arraycopy", desc := "(Ljava/lang/Object;ILjava/lang/Object;II)V", sig := { parameters := [(.object "java/lang/Object"), .int, (.object "java/lang/Object"), .int, .int], returnType := none }, accessFlags := 265, code := none }
/-- java/lang/System -/
def k17 : Class := { plain "java/lang/System" (some 0) with
  accessFlags := 49
  interfaces := #[]
  cf := some (fileOf pool17 8 #[.nestMembers #[319, 327, 801, 108, 663, 208]] #[{ accessFlags := 2, nameIndex := 5, descriptorIndex := 6, attributes := #[] }, { accessFlags := 265, nameIndex := 727, descriptorIndex := 728, attributes := #[] }] 49 2 #[] #[{ accessFlags := 25, nameIndex := 507, descriptorIndex := 526, attributes := #[] }, { accessFlags := 25, nameIndex := 399, descriptorIndex := 155, attributes := #[] }, { accessFlags := 25, nameIndex := 396, descriptorIndex := 155, attributes := #[] }, { accessFlags := 10, nameIndex := 525, descriptorIndex := 526, attributes := #[] }, { accessFlags := 26, nameIndex := 674, descriptorIndex := 12, attributes := #[] }, { accessFlags := 26, nameIndex := 677, descriptorIndex := 12, attributes := #[] }, { accessFlags := 10, nameIndex := 11, descriptorIndex := 12, attributes := #[] }, { accessFlags := 74, nameIndex := 175, descriptorIndex := 176, attributes := #[] }, { accessFlags := 10, nameIndex := 491, descriptorIndex := 222, attributes := #[] }, { accessFlags := 74, nameIndex := 29, descriptorIndex := 30, attributes := #[] }, { accessFlags := 74, nameIndex := 154, descriptorIndex := 155, attributes := #[] }, { accessFlags := 10, nameIndex := 217, descriptorIndex := 218, attributes := #[] }, { accessFlags := 10, nameIndex := 221, descriptorIndex := 222, attributes := #[] }, { accessFlags := 8, nameIndex := 562, descriptorIndex := 563, attributes := #[] }])
  fields := #[{ name := "in", type := (.object "java/io/InputStream"), accessFlags := 25, slot := 0, constantValue := 0 }, { name := "out", type := (.object "java/io/PrintStream"), accessFlags := 25, slot := 1, constantValue := 0 }, { name := "err", type := (.object "java/io/PrintStream"), accessFlags := 25, slot := 2, constantValue := 0 }, { name := "initialIn", type := (.object "java/io/InputStream"), accessFlags := 10, slot := 3, constantValue := 0 }, { name := "NEVER", type := .int, accessFlags := 26, slot := 4, constantValue := 0 }, { name := "MAYBE", type := .int, accessFlags := 26, slot := 5, constantValue := 0 }, { name := "allowSecurityManager", type := .int, accessFlags := 10, slot := 6, constantValue := 0 }, { name := "security", type := (.object "java/lang/SecurityManager"), accessFlags := 74, slot := 7, constantValue := 0 }, { name := "notSupportedJnuEncoding", type := (.object "java/lang/String"), accessFlags := 10, slot := 8, constantValue := 0 }, { name := "cons", type := (.object "java/io/Console"), accessFlags := 74, slot := 9, constantValue := 0 }, { name := "initialErrStream", type := (.object "java/io/PrintStream"), accessFlags := 74, slot := 10, constantValue := 0 }, { name := "props", type := (.object "java/util/Properties"), accessFlags := 10, slot := 11, constantValue := 0 }, { name := "lineSeparator", type := (.object "java/lang/String"), accessFlags := 10, slot := 12, constantValue := 0 }, { name := "bootLayer", type := (.object "java/lang/ModuleLayer"), accessFlags := 8, slot := 13, constantValue := 0 }]
  methods := #[k17m0, k17m1]
  instanceTypes := #[]
  staticTypes := #[(.object "java/io/InputStream"), (.object "java/io/PrintStream"), (.object "java/io/PrintStream"), (.object "java/io/InputStream"), .int, .int, .int, (.object "java/lang/SecurityManager"), (.object "java/lang/String"), (.object "java/io/Console"), (.object "java/io/PrintStream"), (.object "java/util/Properties"), (.object "java/lang/String"), (.object "java/lang/ModuleLayer")]
  resolved := Array.replicate 834 none
  statics := none }

def pool18 : Array CpInfo := pool [(2, .class_ 4), (1, u "java/lang/Object"), (0, u "<init>"), (0, u "()V"), (7, .class_ 16), (1, u "java/util/Arrays"), (57, .class_ 76), (1, u "java/util/Arrays$NaturalOrder"), (36, .class_ 115), (1, u "java/util/Arrays$LegacyMergeSort"), (1, u "Z"), (21, u "copyOfRange"), (10, .methodref 151 152), (0, .class_ 153), (0, .nameAndType 154 155), (0, u "java/lang/System"), (0, u "arraycopy"), (0, u "(Ljava/lang/Object;ILjava/lang/Object;II)V"), (148, .methodref 305 306), (0, .class_ 307), (0, .nameAndType 308 309), (0, u "java/lang/Math"), (0, u "min"), (0, u "(II)I"), (29, .methodref 14 340), (0, .nameAndType 341 342), (0, u "copyOfRangeByte"), (0, u "([BII)[B"), (0, .methodref 14 344), (0, .nameAndType 345 346), (0, u "checkLength"), (0, u "(II)V"), (28, .class_ 376), (0, u "java/util/Arrays$ArrayList"), (68, u "$assertionsDisabled"), (269, u "MIN_ARRAY_SORT_GRAN"), (0, u "I"), (2, u "INSERTIONSORT_THRESHOLD"), (255, .class_ 976), (0, u "java/util/Arrays$ArrayItr")] 52

def k18m0 : Method := { name := "<init>", desc := "()V", sig := { parameters := [], returnType := none }, accessFlags := 2, code := none }
def k18c1 : Code := { maxStack := 4, maxLocals := 2, code := jdk_65_method_131_code, exceptionTable := #[], attributes := #[] }
def k18m1 : Method := { name := "checkLength", desc := "(II)V", sig := { parameters := [.int, .int], returnType := none }, accessFlags := 10, code := some k18c1 }
def k18c2 : Code := { maxStack := 3, maxLocals := 3, code := jdk_65_method_132_code, exceptionTable := #[], attributes := #[] }
def k18m2 : Method := { name := "copyOfRange", desc := "([BII)[B", sig := { parameters := [(.array .byte), .int, .int], returnType := some (.array .byte) }, accessFlags := 9, code := some k18c2 }
def k18c3 : Code := { maxStack := 6, maxLocals := 5, code := jdk_65_method_133_code, exceptionTable := #[], attributes := #[] }
def k18m3 : Method := { name := "copyOfRangeByte", desc := "([BII)[B", sig := { parameters := [(.array .byte), .int, .int], returnType := some (.array .byte) }, accessFlags := 10, code := some k18c3 }
/-- java/util/Arrays -/
def k18 : Class := { plain "java/util/Arrays" (some 0) with
  accessFlags := 49
  interfaces := #[]
  cf := some (fileOf pool18 14 #[.nestMembers #[975, 375, 113, 74]] #[{ accessFlags := 2, nameIndex := 5, descriptorIndex := 6, attributes := #[] }, { accessFlags := 10, nameIndex := 345, descriptorIndex := 346, attributes := #[] }, { accessFlags := 9, nameIndex := 139, descriptorIndex := 342, attributes := #[] }, { accessFlags := 10, nameIndex := 341, descriptorIndex := 342, attributes := #[] }] 49 2 #[] #[{ accessFlags := 26, nameIndex := 715, descriptorIndex := 716, attributes := #[] }, { accessFlags := 26, nameIndex := 719, descriptorIndex := 716, attributes := #[] }, { accessFlags := 4120, nameIndex := 445, descriptorIndex := 117, attributes := #[] }])
  fields := #[{ name := "MIN_ARRAY_SORT_GRAN", type := .int, accessFlags := 26, slot := 0, constantValue := 0 }, { name := "INSERTIONSORT_THRESHOLD", type := .int, accessFlags := 26, slot := 1, constantValue := 0 }, { name := "$assertionsDisabled", type := .boolean, accessFlags := 4120, slot := 2, constantValue := 0 }]
  methods := #[k18m0, k18m1, k18m2, k18m3]
  instanceTypes := #[]
  staticTypes := #[.int, .int, .boolean]
  resolved := Array.replicate 1029 none
  statics := none }

def pool19 : Array CpInfo := pool [(1, .class_ 2), (0, u "java/lang/Math"), (1, .class_ 6), (1, u "java/lang/Object"), (0, u "<init>"), (0, u "()V"), (89, .class_ 100), (1, u "java/lang/Math$RandomNumberGeneratorHolder"), (71, u "negativeZeroFloatBits"), (0, u "J"), (2, u "negativeZeroDoubleBits"), (24, u "min"), (43, u "$assertionsDisabled"), (0, u "Z"), (88, u "(II)I"), (2, u "twoToTheDoubleScaleDown"), (0, u "D"), (4, u "twoToTheDoubleScaleUp"), (9, u "E"), (3, u "PI"), (2, u "TAU"), (2, u "DEGREES_TO_RADIANS"), (0, u "RADIANS_TO_DEGREES")] 94

def k19m0 : Method := { name := "<init>", desc := "()V", sig := { parameters := [], returnType := none }, accessFlags := 2, code := none }
def k19c1 : Code := { maxStack := 2, maxLocals := 2, code := jdk_29_method_69_code, exceptionTable := #[], attributes := #[] }
def k19m1 : Method := { name := "min", desc := "(II)I", sig := { parameters := [.int, .int], returnType := some .int }, accessFlags := 9, code := some k19c1 }
/-- java/lang/Math -/
def k19 : Class := { plain "java/lang/Math" (some 0) with
  accessFlags := 49
  interfaces := #[]
  cf := some (fileOf pool19 1 #[.nestMembers #[98]] #[{ accessFlags := 2, nameIndex := 7, descriptorIndex := 8, attributes := #[] }, { accessFlags := 9, nameIndex := 201, descriptorIndex := 335, attributes := #[] }] 49 4 #[] #[{ accessFlags := 25, nameIndex := 354, descriptorIndex := 339, attributes := #[] }, { accessFlags := 25, nameIndex := 358, descriptorIndex := 339, attributes := #[] }, { accessFlags := 25, nameIndex := 361, descriptorIndex := 339, attributes := #[] }, { accessFlags := 26, nameIndex := 364, descriptorIndex := 339, attributes := #[] }, { accessFlags := 26, nameIndex := 365, descriptorIndex := 339, attributes := #[] }, { accessFlags := 26, nameIndex := 172, descriptorIndex := 173, attributes := #[] }, { accessFlags := 26, nameIndex := 176, descriptorIndex := 173, attributes := #[] }, { accessFlags := 8, nameIndex := 344, descriptorIndex := 339, attributes := #[] }, { accessFlags := 8, nameIndex := 338, descriptorIndex := 339, attributes := #[] }, { accessFlags := 4120, nameIndex := 245, descriptorIndex := 246, attributes := #[] }])
  fields := #[{ name := "E", type := .double, accessFlags := 25, slot := 0, constantValue := 0 }, { name := "PI", type := .double, accessFlags := 25, slot := 1, constantValue := 0 }, { name := "TAU", type := .double, accessFlags := 25, slot := 2, constantValue := 0 }, { name := "DEGREES_TO_RADIANS", type := .double, accessFlags := 26, slot := 3, constantValue := 0 }, { name := "RADIANS_TO_DEGREES", type := .double, accessFlags := 26, slot := 4, constantValue := 0 }, { name := "negativeZeroFloatBits", type := .long, accessFlags := 26, slot := 5, constantValue := 0 }, { name := "negativeZeroDoubleBits", type := .long, accessFlags := 26, slot := 6, constantValue := 0 }, { name := "twoToTheDoubleScaleUp", type := .double, accessFlags := 8, slot := 7, constantValue := 0 }, { name := "twoToTheDoubleScaleDown", type := .double, accessFlags := 8, slot := 8, constantValue := 0 }, { name := "$assertionsDisabled", type := .boolean, accessFlags := 4120, slot := 9, constantValue := 0 }]
  methods := #[k19m0, k19m1]
  instanceTypes := #[]
  staticTypes := #[.double, .double, .double, .double, .double, .long, .long, .double, .double, .boolean]
  resolved := Array.replicate 460 none
  statics := none }

def pool20 : Array CpInfo := pool [(1, .class_ 2), (0, u "java/lang/String"), (1, .class_ 6), (1, u "java/lang/Object"), (0, u "<init>"), (0, u "()V"), (0, .methodref 1 10), (0, .nameAndType 11 12), (0, u "checkIndex"), (0, u "(II)V"), (1, .class_ 16), (1, u "java/lang/StringLatin1"), (36, u "([BI)C"), (36, u "canEncode"), (14, u "(C)Z"), (15, u "$assertionsDisabled"), (0, u "Z"), (98, .class_ 223), (1, u "java/lang/StringLatin1$LinesSpliterator"), (28, u "charAt"), (127, u "toBytes"), (1, u "(C)[B"), (7, .class_ 391), (0, u "java/lang/StringLatin1$CharsSpliterator")] 3

def k20m0 : Method := { name := "<init>", desc := "()V", sig := { parameters := [], returnType := none }, accessFlags := 0, code := none }
def k20c1 : Code := { maxStack := 2, maxLocals := 2, code := jdk_43_method_2_code, exceptionTable := #[], attributes := #[] }
def k20m1 : Method := { name := "charAt", desc := "([BI)C", sig := { parameters := [(.array .byte), .int], returnType := some .char }, accessFlags := 9, code := some k20c1 }
def k20c2 : Code := { maxStack := 2, maxLocals := 1, code := jdk_43_method_3_code, exceptionTable := #[], attributes := #[] }
def k20m2 : Method := { name := "canEncode", desc := "(C)Z", sig := { parameters := [.char], returnType := some .boolean }, accessFlags := 9, code := some k20c2 }
def k20c3 : Code := { maxStack := 4, maxLocals := 1, code := jdk_43_method_46_code, exceptionTable := #[], attributes := #[] }
def k20m3 : Method := { name := "toBytes", desc := "(C)[B", sig := { parameters := [.char], returnType := some (.array .byte) }, accessFlags := 9, code := some k20c3 }
/-- java/lang/StringLatin1 -/
def k20 : Class := { plain "java/lang/StringLatin1" (some 0) with
  accessFlags := 48
  interfaces := #[]
  cf := some (fileOf pool20 14 #[.nestMembers #[390, 221]] #[{ accessFlags := 0, nameIndex := 7, descriptorIndex := 8, attributes := #[] }, { accessFlags := 9, nameIndex := 252, descriptorIndex := 53, attributes := #[] }, { accessFlags := 9, nameIndex := 90, descriptorIndex := 105, attributes := #[] }, { accessFlags := 9, nameIndex := 380, descriptorIndex := 382, attributes := #[] }] 48 4 #[] #[{ accessFlags := 4120, nameIndex := 121, descriptorIndex := 122, attributes := #[] }])
  fields := #[{ name := "$assertionsDisabled", type := .boolean, accessFlags := 4120, slot := 0, constantValue := 0 }]
  methods := #[k20m0, k20m1, k20m2, k20m3]
  instanceTypes := #[]
  staticTypes := #[.boolean]
  resolved := Array.replicate 395 none
  statics := none }

def pool21 : Array CpInfo := pool [(2, .class_ 4), (1, u "java/lang/Object"), (0, u "<init>"), (0, u "()V"), (17, .class_ 26), (1, u "jdk/internal/util/Preconditions"), (6, u "checkIndex"), (21, .class_ 56), (0, u "jdk/internal/util/Preconditions$4"), (57, .class_ 115), (0, u "jdk/internal/util/Preconditions$1"), (7, u "SIOOBE_FORMATTER"), (0, u "Ljava/util/function/BiFunction;"), (0, .class_ 126), (0, u "jdk/internal/util/Preconditions$2"), (3, u "AIOOBE_FORMATTER"), (0, .class_ 132), (0, u "jdk/internal/util/Preconditions$3"), (3, u "IOOBE_FORMATTER"), (41, u "(IILjava/util/function/BiFunction;)I")] 15

def k21m0 : Method := { name := "<init>", desc := "()V", sig := { parameters := [], returnType := none }, accessFlags := 1, code := none }
def k21c1 : Code := { maxStack := 3, maxLocals := 3, code := jdk_41_method_11_code, exceptionTable := #[], attributes := #[] }
def k21m1 : Method := { name := "checkIndex", desc := "(IILjava/util/function/BiFunction;)I", sig := { parameters := [.int, .int, (.object "java/util/function/BiFunction")], returnType := some .int }, accessFlags := 9, code := some k21c1 }
/-- jdk/internal/util/Preconditions -/
def k21 : Class := { plain "jdk/internal/util/Preconditions" (some 0) with
  accessFlags := 33
  interfaces := #[]
  cf := some (fileOf pool21 24 #[.nestMembers #[55, 131, 125, 114]] #[{ accessFlags := 1, nameIndex := 5, descriptorIndex := 6, attributes := #[] }, { accessFlags := 9, nameIndex := 33, descriptorIndex := 178, attributes := #[] }] 33 2 #[] #[{ accessFlags := 25, nameIndex := 123, descriptorIndex := 124, attributes := #[] }, { accessFlags := 25, nameIndex := 130, descriptorIndex := 124, attributes := #[] }, { accessFlags := 25, nameIndex := 136, descriptorIndex := 124, attributes := #[] }])
  fields := #[{ name := "SIOOBE_FORMATTER", type := (.object "java/util/function/BiFunction"), accessFlags := 25, slot := 0, constantValue := 0 }, { name := "AIOOBE_FORMATTER", type := (.object "java/util/function/BiFunction"), accessFlags := 25, slot := 1, constantValue := 0 }, { name := "IOOBE_FORMATTER", type := (.object "java/util/function/BiFunction"), accessFlags := 25, slot := 2, constantValue := 0 }]
  methods := #[k21m0, k21m1]
  instanceTypes := #[]
  staticTypes := #[(.object "java/util/function/BiFunction"), (.object "java/util/function/BiFunction"), (.object "java/util/function/BiFunction")]
  resolved := Array.replicate 194 none
  statics := some 2 }

def pool22 : Array CpInfo := pool [(9, u "<init>"), (6, .class_ 18), (1, u "java/lang/Object"), (0, u "()V"), (1, .class_ 23), (1, u "jdk/internal/util/ArraysSupport"), (0, u "LOG2_ARRAY_LONG_INDEX_SCALE"), (0, u "I"), (2, u "U"), (0, u "Ljdk/internal/misc/Unsafe;"), (8, u "BIG_ENDIAN"), (0, u "Z"), (8, u "LOG2_BYTE_BIT_SIZE"), (4, u "LOG2_ARRAY_INT_INDEX_SCALE"), (54, u "JLA"), (0, u "Ljdk/internal/access/JavaLangAccess;"), (11, u "LOG2_ARRAY_BOOLEAN_INDEX_SCALE"), (9, u "LOG2_ARRAY_BYTE_INDEX_SCALE"), (5, u "LOG2_ARRAY_CHAR_INDEX_SCALE"), (5, u "LOG2_ARRAY_SHORT_INDEX_SCALE"), (18, u "LOG2_ARRAY_FLOAT_INDEX_SCALE"), (24, u "LOG2_ARRAY_DOUBLE_INDEX_SCALE"), (89, u "T_BOOLEAN"), (2, u "T_CHAR"), (1, u "T_FLOAT"), (1, u "T_DOUBLE"), (1, u "T_BYTE"), (1, u "T_SHORT"), (1, u "T_INT"), (1, u "T_LONG"), (1, u "SOFT_MAX_ARRAY_LENGTH")] 83

def k22m0 : Method := { name := "<init>", desc := "()V", sig := { parameters := [], returnType := none }, accessFlags := 2, code := none }
/-- jdk/internal/util/ArraysSupport -/
def k22 : Class := { plain "jdk/internal/util/ArraysSupport" (some 0) with
  accessFlags := 33
  interfaces := #[]
  cf := some (fileOf pool22 21 #[] #[{ accessFlags := 2, nameIndex := 9, descriptorIndex := 19, attributes := #[] }] 33 16 #[] #[{ accessFlags := 24, nameIndex := 28, descriptorIndex := 29, attributes := #[] }, { accessFlags := 26, nameIndex := 38, descriptorIndex := 39, attributes := #[] }, { accessFlags := 25, nameIndex := 121, descriptorIndex := 25, attributes := #[] }, { accessFlags := 25, nameIndex := 131, descriptorIndex := 25, attributes := #[] }, { accessFlags := 25, nameIndex := 137, descriptorIndex := 25, attributes := #[] }, { accessFlags := 25, nameIndex := 143, descriptorIndex := 25, attributes := #[] }, { accessFlags := 25, nameIndex := 53, descriptorIndex := 25, attributes := #[] }, { accessFlags := 25, nameIndex := 24, descriptorIndex := 25, attributes := #[] }, { accessFlags := 25, nameIndex := 162, descriptorIndex := 25, attributes := #[] }, { accessFlags := 25, nameIndex := 187, descriptorIndex := 25, attributes := #[] }, { accessFlags := 26, nameIndex := 48, descriptorIndex := 25, attributes := #[] }, { accessFlags := 25, nameIndex := 277, descriptorIndex := 25, attributes := #[] }, { accessFlags := 25, nameIndex := 280, descriptorIndex := 25, attributes := #[] }, { accessFlags := 25, nameIndex := 282, descriptorIndex := 25, attributes := #[] }, { accessFlags := 25, nameIndex := 284, descriptorIndex := 25, attributes := #[] }, { accessFlags := 25, nameIndex := 286, descriptorIndex := 25, attributes := #[] }, { accessFlags := 25, nameIndex := 288, descriptorIndex := 25, attributes := #[] }, { accessFlags := 25, nameIndex := 290, descriptorIndex := 25, attributes := #[] }, { accessFlags := 25, nameIndex := 292, descriptorIndex := 25, attributes := #[] }, { accessFlags := 26, nameIndex := 108, descriptorIndex := 109, attributes := #[] }, { accessFlags := 25, nameIndex := 294, descriptorIndex := 25, attributes := #[] }])
  fields := #[{ name := "U", type := (.object "jdk/internal/misc/Unsafe"), accessFlags := 24, slot := 0, constantValue := 0 }, { name := "BIG_ENDIAN", type := .boolean, accessFlags := 26, slot := 1, constantValue := 0 }, { name := "LOG2_ARRAY_BOOLEAN_INDEX_SCALE", type := .int, accessFlags := 25, slot := 2, constantValue := 0 }, { name := "LOG2_ARRAY_BYTE_INDEX_SCALE", type := .int, accessFlags := 25, slot := 3, constantValue := 0 }, { name := "LOG2_ARRAY_CHAR_INDEX_SCALE", type := .int, accessFlags := 25, slot := 4, constantValue := 0 }, { name := "LOG2_ARRAY_SHORT_INDEX_SCALE", type := .int, accessFlags := 25, slot := 5, constantValue := 0 }, { name := "LOG2_ARRAY_INT_INDEX_SCALE", type := .int, accessFlags := 25, slot := 6, constantValue := 0 }, { name := "LOG2_ARRAY_LONG_INDEX_SCALE", type := .int, accessFlags := 25, slot := 7, constantValue := 0 }, { name := "LOG2_ARRAY_FLOAT_INDEX_SCALE", type := .int, accessFlags := 25, slot := 8, constantValue := 0 }, { name := "LOG2_ARRAY_DOUBLE_INDEX_SCALE", type := .int, accessFlags := 25, slot := 9, constantValue := 0 }, { name := "LOG2_BYTE_BIT_SIZE", type := .int, accessFlags := 26, slot := 10, constantValue := 0 }, { name := "T_BOOLEAN", type := .int, accessFlags := 25, slot := 11, constantValue := 0 }, { name := "T_CHAR", type := .int, accessFlags := 25, slot := 12, constantValue := 0 }, { name := "T_FLOAT", type := .int, accessFlags := 25, slot := 13, constantValue := 0 }, { name := "T_DOUBLE", type := .int, accessFlags := 25, slot := 14, constantValue := 0 }, { name := "T_BYTE", type := .int, accessFlags := 25, slot := 15, constantValue := 0 }, { name := "T_SHORT", type := .int, accessFlags := 25, slot := 16, constantValue := 0 }, { name := "T_INT", type := .int, accessFlags := 25, slot := 17, constantValue := 0 }, { name := "T_LONG", type := .int, accessFlags := 25, slot := 18, constantValue := 0 }, { name := "JLA", type := (.object "jdk/internal/access/JavaLangAccess"), accessFlags := 26, slot := 19, constantValue := 0 }, { name := "SOFT_MAX_ARRAY_LENGTH", type := .int, accessFlags := 25, slot := 20, constantValue := 0 }]
  methods := #[k22m0]
  instanceTypes := #[]
  staticTypes := #[(.object "jdk/internal/misc/Unsafe"), .boolean, .int, .int, .int, .int, .int, .int, .int, .int, .int, .int, .int, .int, .int, .int, .int, .int, .int, (.object "jdk/internal/access/JavaLangAccess"), .int]
  resolved := Array.replicate 378 none
  statics := none }

def pool23 : Array CpInfo := pool [(2, .class_ 4), (1, u "java/lang/Object"), (0, u "<init>"), (0, u "()V"), (12, .class_ 20), (0, u "java/util/Collections"), (63, u "r"), (0, u "Ljava/util/Random;"), (80, .class_ 167), (0, u "java/util/Collections$UnmodifiableCollection"), (6, .class_ 175), (0, u "java/util/Collections$UnmodifiableSequencedCollection"), (6, .class_ 183), (0, u "java/util/Collections$UnmodifiableSet"), (6, .class_ 191), (0, u "java/util/Collections$UnmodifiableSequencedSet"), (6, .class_ 199), (0, u "java/util/Collections$UnmodifiableSortedSet"), (6, .class_ 207), (0, u "java/util/Collections$UnmodifiableNavigableSet"), (4, .class_ 213), (0, u "java/util/Collections$UnmodifiableList"), (1, .class_ 216), (0, u "java/util/Collections$UnmodifiableRandomAccessList"), (6, .class_ 224), (0, u "java/util/Collections$UnmodifiableMap"), (6, .class_ 232), (0, u "java/util/Collections$UnmodifiableSequencedMap"), (4, .class_ 238), (0, u "java/util/Collections$UnmodifiableSortedMap"), (6, .class_ 246), (0, u "java/util/Collections$UnmodifiableNavigableMap"), (3, .class_ 251), (0, u "java/util/Collections$SynchronizedCollection"), (4, .class_ 257), (0, u "java/util/Collections$SynchronizedSet"), (4, .class_ 263), (0, u "java/util/Collections$SynchronizedSortedSet"), (1, .class_ 266), (0, u "java/util/Collections$SynchronizedNavigableSet"), (1, .class_ 269), (0, u "java/util/Collections$SynchronizedRandomAccessList"), (1, .class_ 272), (0, u "java/util/Collections$SynchronizedList"), (5, .class_ 279), (0, u "java/util/Collections$SynchronizedMap"), (1, .class_ 282), (0, u "java/util/Collections$SynchronizedSortedMap"), (1, .class_ 285), (0, u "java/util/Collections$SynchronizedNavigableMap"), (1, .class_ 288), (0, u "java/util/Collections$CheckedCollection"), (11, .class_ 301), (0, u "java/util/Collections$CheckedQueue"), (3, .class_ 306), (0, u "java/util/Collections$CheckedSet"), (3, .class_ 311), (0, u "java/util/Collections$CheckedSortedSet"), (3, .class_ 316), (0, u "java/util/Collections$CheckedNavigableSet"), (3, .class_ 321), (0, u "java/util/Collections$CheckedRandomAccessList"), (3, .class_ 326), (0, u "java/util/Collections$CheckedList"), (1, .class_ 329), (0, u "java/util/Collections$CheckedMap"), (3, .class_ 334), (0, u "java/util/Collections$CheckedSortedMap"), (3, .class_ 339), (0, u "java/util/Collections$CheckedNavigableMap"), (4, .class_ 346), (1, u "java/util/Collections$EmptyIterator"), (3, .class_ 352), (1, u "java/util/Collections$EmptyListIterator"), (2, .class_ 357), (1, u "java/util/Collections$EmptyEnumeration"), (4, u "EMPTY_SET"), (0, u "Ljava/util/Set;"), (6, u "EMPTY_LIST"), (0, u "Ljava/util/List;"), (2, u "EMPTY_MAP"), (0, u "Ljava/util/Map;"), (4, .class_ 381), (0, u "java/util/Collections$SingletonSet"), (2, .class_ 385), (0, u "java/util/Collections$1"), (1, .class_ 388), (0, u "java/util/Collections$2"), (1, .class_ 391), (0, u "java/util/Collections$SingletonList"), (1, .class_ 394), (0, u "java/util/Collections$SingletonMap"), (22, .class_ 418), (0, u "java/util/Collections$CopiesList"), (4, .class_ 425), (1, u "java/util/Collections$ReverseComparator"), (8, .class_ 435), (0, u "java/util/Collections$ReverseComparator2"), (6, .class_ 443), (0, u "java/util/Collections$3"), (25, .class_ 470), (0, u "java/util/Collections$SetFromMap"), (2, .class_ 474), (0, u "java/util/Collections$SequencedSetFromMap"), (3, .class_ 479), (0, u "java/util/Collections$AsLIFOQueue"), (11, .class_ 492), (0, u "java/util/Collections$EmptySet"), (1, .class_ 495), (0, u "java/util/Collections$EmptyList"), (1, .class_ 498), (0, u "java/util/Collections$EmptyMap"), (1, u "BINARYSEARCH_THRESHOLD"), (0, u "I"), (2, u "REVERSE_THRESHOLD"), (1, u "SHUFFLE_THRESHOLD"), (1, u "FILL_THRESHOLD"), (1, u "ROTATE_THRESHOLD"), (1, u "COPY_THRESHOLD"), (1, u "REPLACEALL_THRESHOLD"), (1, u "INDEXOFSUBLIST_THRESHOLD"), (333, .class_ 851), (0, u "java/util/Collections$CheckedMap$CheckedEntrySet"), (0, .class_ 853), (0, u "java/util/Collections$CheckedMap$CheckedEntrySet$CheckedEntry"), (0, .class_ 855), (0, u "java/util/Collections$CheckedMap$CheckedEntrySet$1"), (0, .class_ 857), (0, u "java/util/Collections$CheckedList$1"), (0, .class_ 859), (0, u "java/util/Collections$CheckedCollection$1"), (0, .class_ 861), (0, u "java/util/Collections$UnmodifiableNavigableMap$EmptyNavigableMap"), (0, .class_ 863), (0, u "java/util/Collections$UnmodifiableMap$UnmodifiableEntrySet"), (0, .class_ 865), (0, u "java/util/Collections$UnmodifiableMap$UnmodifiableEntrySet$UnmodifiableEntry"), (0, .class_ 867), (0, u "java/util/Collections$UnmodifiableMap$UnmodifiableEntrySet$UnmodifiableEntrySetSpliterator"), (0, .class_ 869), (0, u "java/util/Collections$UnmodifiableMap$UnmodifiableEntrySet$1"), (0, .class_ 871), (0, u "java/util/Collections$UnmodifiableList$1"), (0, .class_ 873), (0, u "java/util/Collections$UnmodifiableNavigableSet$EmptyNavigableSet"), (0, .class_ 875), (0, u "java/util/Collections$UnmodifiableCollection$1")] 57

def k23m0 : Method := { name := "<init>", desc := "()V", sig := { parameters := [], returnType := none }, accessFlags := 2, code := none }
/-- java/util/Collections -/
def k23 : Class := { plain "java/util/Collections" (some 0) with
  accessFlags := 33
  interfaces := #[]
  cf := some (fileOf pool23 19 #[.nestMembers #[478, 473, 469, 434, 423, 417, 393, 390, 380, 497, 494, 491, 355, 350, 344, 338, 333, 328, 850, 852, 854, 320, 325, 856, 315, 310, 305, 300, 287, 858, 284, 281, 278, 268, 271, 265, 262, 256, 250, 245, 860, 237, 231, 223, 862, 864, 866, 868, 215, 212, 870, 206, 872, 198, 190, 182, 174, 166, 874, 442, 387, 384]] #[{ accessFlags := 2, nameIndex := 5, descriptorIndex := 6, attributes := #[] }] 33 2 #[] #[{ accessFlags := 26, nameIndex := 500, descriptorIndex := 501, attributes := #[] }, { accessFlags := 26, nameIndex := 504, descriptorIndex := 501, attributes := #[] }, { accessFlags := 26, nameIndex := 506, descriptorIndex := 501, attributes := #[] }, { accessFlags := 26, nameIndex := 508, descriptorIndex := 501, attributes := #[] }, { accessFlags := 26, nameIndex := 510, descriptorIndex := 501, attributes := #[] }, { accessFlags := 26, nameIndex := 512, descriptorIndex := 501, attributes := #[] }, { accessFlags := 26, nameIndex := 514, descriptorIndex := 501, attributes := #[] }, { accessFlags := 26, nameIndex := 516, descriptorIndex := 501, attributes := #[] }, { accessFlags := 10, nameIndex := 84, descriptorIndex := 85, attributes := #[] }, { accessFlags := 25, nameIndex := 362, descriptorIndex := 363, attributes := #[] }, { accessFlags := 25, nameIndex := 370, descriptorIndex := 371, attributes := #[] }, { accessFlags := 25, nameIndex := 374, descriptorIndex := 375, attributes := #[] }])
  fields := #[{ name := "BINARYSEARCH_THRESHOLD", type := .int, accessFlags := 26, slot := 0, constantValue := 0 }, { name := "REVERSE_THRESHOLD", type := .int, accessFlags := 26, slot := 1, constantValue := 0 }, { name := "SHUFFLE_THRESHOLD", type := .int, accessFlags := 26, slot := 2, constantValue := 0 }, { name := "FILL_THRESHOLD", type := .int, accessFlags := 26, slot := 3, constantValue := 0 }, { name := "ROTATE_THRESHOLD", type := .int, accessFlags := 26, slot := 4, constantValue := 0 }, { name := "COPY_THRESHOLD", type := .int, accessFlags := 26, slot := 5, constantValue := 0 }, { name := "REPLACEALL_THRESHOLD", type := .int, accessFlags := 26, slot := 6, constantValue := 0 }, { name := "INDEXOFSUBLIST_THRESHOLD", type := .int, accessFlags := 26, slot := 7, constantValue := 0 }, { name := "r", type := (.object "java/util/Random"), accessFlags := 10, slot := 8, constantValue := 0 }, { name := "EMPTY_SET", type := (.object "java/util/Set"), accessFlags := 25, slot := 9, constantValue := 0 }, { name := "EMPTY_LIST", type := (.object "java/util/List"), accessFlags := 25, slot := 10, constantValue := 0 }, { name := "EMPTY_MAP", type := (.object "java/util/Map"), accessFlags := 25, slot := 11, constantValue := 0 }]
  methods := #[k23m0]
  instanceTypes := #[]
  staticTypes := #[.int, .int, .int, .int, .int, .int, .int, .int, (.object "java/util/Random"), (.object "java/util/Set"), (.object "java/util/List"), (.object "java/util/Map")]
  resolved := Array.replicate 933 none
  statics := some 3 }

def pool24 : Array CpInfo := pool [(8, .class_ 10), (1, u "java/lang/Iterable"), (24, .class_ 36), (0, u "java/lang/Object")] 25

/-- java/lang/Iterable -/
def k24 : Class := { plain "java/lang/Iterable" (some 0) with
  accessFlags := 1537
  interfaces := #[]
  cf := some (fileOf pool24 8 #[] #[] 1537 35 #[] #[])
  fields := #[]
  methods := #[]
  instanceTypes := #[]
  staticTypes := #[]
  resolved := Array.replicate 62 none
  statics := none }

def pool25 : Array CpInfo := pool [(10, .class_ 12), (1, u "java/util/Collection"), (47, .class_ 61), (0, u "java/lang/Object"), (0, .class_ 63), (0, u "java/lang/Iterable")] 51

/-- java/util/Collection -/
def k25 : Class := { plain "java/util/Collection" (some 0) with
  accessFlags := 1537
  interfaces := #[24]
  cf := some (fileOf pool25 10 #[] #[] 1537 60 #[62] #[])
  fields := #[]
  methods := #[]
  instanceTypes := #[]
  staticTypes := #[]
  resolved := Array.replicate 115 none
  statics := none }

def pool26 : Array CpInfo := pool [(2, .class_ 4), (1, u "java/lang/Object"), (0, u "<init>"), (0, u "()V"), (1, .class_ 10), (1, u "java/util/AbstractCollection"), (66, .class_ 78), (0, u "java/util/Collection")] 81

def k26m0 : Method := { name := "<init>", desc := "()V", sig := { parameters := [], returnType := none }, accessFlags := 4, code := none }
/-- java/util/AbstractCollection -/
def k26 : Class := { plain "java/util/AbstractCollection" (some 0) with
  accessFlags := 1057
  interfaces := #[25]
  cf := some (fileOf pool26 8 #[] #[{ accessFlags := 4, nameIndex := 5, descriptorIndex := 6, attributes := #[] }] 1057 2 #[77] #[])
  fields := #[]
  methods := #[k26m0]
  instanceTypes := #[]
  staticTypes := #[]
  resolved := Array.replicate 160 none
  statics := none }

def pool27 : Array CpInfo := pool [(8, .class_ 10), (1, u "java/util/SequencedCollection"), (15, .class_ 27), (0, u "java/lang/Object"), (0, .class_ 29), (0, u "java/util/Collection")] 27

/-- java/util/SequencedCollection -/
def k27 : Class := { plain "java/util/SequencedCollection" (some 0) with
  accessFlags := 1537
  interfaces := #[25]
  cf := some (fileOf pool27 8 #[] #[] 1537 26 #[28] #[])
  fields := #[]
  methods := #[]
  instanceTypes := #[]
  staticTypes := #[]
  resolved := Array.replicate 57 none
  statics := none }

def pool28 : Array CpInfo := pool [(8, .class_ 10), (1, u "java/util/List"), (92, .class_ 104), (0, u "java/lang/Object"), (15, .class_ 121), (0, u "java/util/SequencedCollection")] 129

/-- java/util/List -/
def k28 : Class := { plain "java/util/List" (some 0) with
  accessFlags := 1537
  interfaces := #[27]
  cf := some (fileOf pool28 8 #[] #[] 1537 103 #[120] #[])
  fields := #[]
  methods := #[]
  instanceTypes := #[]
  staticTypes := #[]
  resolved := Array.replicate 251 none
  statics := none }

def pool29 : Array CpInfo := pool [(2, .class_ 4), (1, u "java/util/AbstractCollection"), (0, u "<init>"), (0, u "()V"), (1, .class_ 10), (1, u "java/util/AbstractList"), (0, u "modCount"), (0, u "I"), (64, .class_ 78), (0, u "java/util/AbstractList$Itr"), (3, .class_ 83), (0, u "java/util/AbstractList$ListItr"), (9, .class_ 94), (0, u "java/util/AbstractList$RandomAccessSubList"), (3, .class_ 99), (0, u "java/util/AbstractList$SubList"), (33, .class_ 134), (0, u "java/util/List"), (73, .class_ 209), (0, u "java/util/AbstractList$SubList$1"), (0, .class_ 211), (0, u "java/util/AbstractList$RandomAccessSpliterator")] 6

def k29m0 : Method := { name := "<init>", desc := "()V", sig := { parameters := [], returnType := none }, accessFlags := 4, code := none }
/-- java/util/AbstractList -/
def k29 : Class := { plain "java/util/AbstractList" (some 26) with
  accessFlags := 1057
  interfaces := #[28]
  cf := some (fileOf pool29 8 #[.nestMembers #[93, 98, 208, 210, 82, 77]] #[{ accessFlags := 4, nameIndex := 5, descriptorIndex := 6, attributes := #[] }] 1057 2 #[133] #[{ accessFlags := 132, nameIndex := 11, descriptorIndex := 12, attributes := #[] }])
  fields := #[{ name := "modCount", type := .int, accessFlags := 132, slot := 0, constantValue := 0 }]
  methods := #[k29m0]
  instanceTypes := #[.int]
  staticTypes := #[]
  resolved := Array.replicate 218 none
  statics := none }

def pool30 : Array CpInfo := pool [(1, .class_ 2), (0, u "java/util/RandomAccess"), (0, .class_ 4), (0, u "java/lang/Object")] 2

/-- java/util/RandomAccess -/
def k30 : Class := { plain "java/util/RandomAccess" (some 0) with
  accessFlags := 1537
  interfaces := #[]
  cf := some (fileOf pool30 1 #[] #[] 1537 3 #[] #[])
  fields := #[]
  methods := #[]
  instanceTypes := #[]
  staticTypes := #[]
  resolved := Array.replicate 7 none
  statics := none }

def pool31 : Array CpInfo := pool [(2, .class_ 4), (1, u "java/util/AbstractList"), (0, u "<init>"), (0, u "()V"), (1, .class_ 10), (1, u "java/util/Collections"), (54, .class_ 66), (0, u "java/util/Collections$EmptyList"), (0, .class_ 68), (0, u "java/util/RandomAccess"), (0, .class_ 70), (0, u "java/io/Serializable"), (0, u "serialVersionUID"), (0, u "J")] 77

def k31m0 : Method := { name := "<init>", desc := "()V", sig := { parameters := [], returnType := none }, accessFlags := 2, code := none }
/-- java/util/Collections$EmptyList -/
def k31 : Class := { plain "java/util/Collections$EmptyList" (some 29) with
  accessFlags := 32
  interfaces := #[30, 2]
  cf := some (fileOf pool31 65 #[.nestHost 8] #[{ accessFlags := 2, nameIndex := 5, descriptorIndex := 6, attributes := #[] }] 32 2 #[67, 69] #[{ accessFlags := 26, nameIndex := 71, descriptorIndex := 72, attributes := #[] }])
  fields := #[{ name := "serialVersionUID", type := .long, accessFlags := 26, slot := 0, constantValue := 0 }]
  methods := #[k31m0]
  instanceTypes := #[.int]
  staticTypes := #[.long]
  resolved := Array.replicate 150 none
  statics := none }

def pool32 : Array CpInfo := pool [(2, .class_ 4), (1, u "java/lang/StackTraceElement"), (0, u "<init>"), (2, .class_ 10), (1, u "java/lang/Object"), (0, u "()V"), (2, u "format"), (0, u "B"), (2, u "classLoaderName"), (0, u "Ljava/lang/String;"), (2, u "moduleName"), (2, u "moduleVersion"), (12, u "declaringClass"), (4, u "methodName"), (2, u "fileName"), (2, u "lineNumber"), (0, u "I"), (65, u "declaringClassObject"), (0, u "Ljava/lang/Class;"), (33, .class_ 153), (1, u "java/lang/StackTraceElement$HashedModules"), (17, .class_ 172), (0, u "java/io/Serializable"), (0, u "NATIVE_METHOD"), (1, u "UNKNOWN_SOURCE"), (2, u "BUILTIN_CLASS_LOADER"), (1, u "JDK_NON_UPGRADEABLE_MODULE"), (1, u "serialVersionUID"), (0, u "J")] 51

def k32m0 : Method := { name := "<init>", desc := "()V", sig := { parameters := [], returnType := none }, accessFlags := 2, code := none }
/-- java/lang/StackTraceElement -/
def k32 : Class := { plain "java/lang/StackTraceElement" (some 0) with
  accessFlags := 49
  interfaces := #[2]
  cf := some (fileOf pool32 2 #[.nestMembers #[151]] #[{ accessFlags := 2, nameIndex := 5, descriptorIndex := 11, attributes := #[] }] 49 8 #[171] #[{ accessFlags := 26, nameIndex := 173, descriptorIndex := 19, attributes := #[] }, { accessFlags := 26, nameIndex := 175, descriptorIndex := 19, attributes := #[] }, { accessFlags := 130, nameIndex := 116, descriptorIndex := 117, attributes := #[] }, { accessFlags := 2, nameIndex := 18, descriptorIndex := 19, attributes := #[] }, { accessFlags := 2, nameIndex := 22, descriptorIndex := 19, attributes := #[] }, { accessFlags := 2, nameIndex := 25, descriptorIndex := 19, attributes := #[] }, { accessFlags := 2, nameIndex := 38, descriptorIndex := 19, attributes := #[] }, { accessFlags := 2, nameIndex := 43, descriptorIndex := 19, attributes := #[] }, { accessFlags := 2, nameIndex := 46, descriptorIndex := 19, attributes := #[] }, { accessFlags := 2, nameIndex := 49, descriptorIndex := 50, attributes := #[] }, { accessFlags := 2, nameIndex := 14, descriptorIndex := 15, attributes := #[] }, { accessFlags := 26, nameIndex := 178, descriptorIndex := 15, attributes := #[] }, { accessFlags := 26, nameIndex := 180, descriptorIndex := 15, attributes := #[] }, { accessFlags := 26, nameIndex := 182, descriptorIndex := 183, attributes := #[] }])
  fields := #[{ name := "NATIVE_METHOD", type := (.object "java/lang/String"), accessFlags := 26, slot := 0, constantValue := 0 }, { name := "UNKNOWN_SOURCE", type := (.object "java/lang/String"), accessFlags := 26, slot := 1, constantValue := 0 }, { name := "declaringClassObject", type := (.object "java/lang/Class"), accessFlags := 130, slot := 0, constantValue := 0 }, { name := "classLoaderName", type := (.object "java/lang/String"), accessFlags := 2, slot := 1, constantValue := 0 }, { name := "moduleName", type := (.object "java/lang/String"), accessFlags := 2, slot := 2, constantValue := 0 }, { name := "moduleVersion", type := (.object "java/lang/String"), accessFlags := 2, slot := 3, constantValue := 0 }, { name := "declaringClass", type := (.object "java/lang/String"), accessFlags := 2, slot := 4, constantValue := 0 }, { name := "methodName", type := (.object "java/lang/String"), accessFlags := 2, slot := 5, constantValue := 0 }, { name := "fileName", type := (.object "java/lang/String"), accessFlags := 2, slot := 6, constantValue := 0 }, { name := "lineNumber", type := .int, accessFlags := 2, slot := 7, constantValue := 0 }, { name := "format", type := .byte, accessFlags := 2, slot := 8, constantValue := 0 }, { name := "BUILTIN_CLASS_LOADER", type := .byte, accessFlags := 26, slot := 2, constantValue := 0 }, { name := "JDK_NON_UPGRADEABLE_MODULE", type := .byte, accessFlags := 26, slot := 3, constantValue := 0 }, { name := "serialVersionUID", type := .long, accessFlags := 26, slot := 4, constantValue := 0 }]
  methods := #[k32m0]
  instanceTypes := #[(.object "java/lang/Class"), (.object "java/lang/String"), (.object "java/lang/String"), (.object "java/lang/String"), (.object "java/lang/String"), (.object "java/lang/String"), (.object "java/lang/String"), .int, .byte]
  staticTypes := #[(.object "java/lang/String"), (.object "java/lang/String"), .byte, .byte, .long]
  resolved := Array.replicate 235 none
  statics := none }

def pool33 : Array CpInfo := pool [(1, u "java/lang/Cloneable"), (0, .class_ 1), (0, u "java/lang/Object"), (0, .class_ 3)] 3

/-- java/lang/Cloneable -/
def k33 : Class := { plain "java/lang/Cloneable" (some 0) with
  accessFlags := 1537
  interfaces := #[]
  cf := some (fileOf pool33 2 #[] #[] 1537 4 #[] #[])
  fields := #[]
  methods := #[]
  instanceTypes := #[]
  staticTypes := #[]
  resolved := Array.replicate 8 none
  statics := none }

/-- the primitive byte -/
def k34 : Class := { plain "byte" none with kind := .primitive 'B', accessFlags := 0x411 }
/-- [B -/
def k35 : Class := { plain "[B" (some 0) with kind := .array 34 .byte, interfaces := #[33, 2], accessFlags := 1041 }

/-- the primitive char -/
def k36 : Class := { plain "char" none with kind := .primitive 'C', accessFlags := 0x411 }
/-- [C -/
def k37 : Class := { plain "[C" (some 0) with kind := .array 36 .char, interfaces := #[33, 2], accessFlags := 1041 }

/-- the primitive int -/
def k38 : Class := { plain "int" none with kind := .primitive 'I', accessFlags := 0x411 }
/-- [I -/
def k39 : Class := { plain "[I" (some 0) with kind := .array 38 .int, interfaces := #[33, 2], accessFlags := 1041 }

/-- [Ljava/lang/Object; -/
def k40 : Class := { plain "[Ljava/lang/Object;" (some 0) with kind := .array 0 (.object "java/lang/Object"), interfaces := #[33, 2], accessFlags := 1041 }

/-- [Ljava/lang/StackTraceElement; -/
def k41 : Class := { plain "[Ljava/lang/StackTraceElement;" (some 0) with kind := .array 32 (.object "java/lang/StackTraceElement"), interfaces := #[33, 2], accessFlags := 1041 }

/-- [Ljava/lang/Throwable; -/
def k42 : Class := { plain "[Ljava/lang/Throwable;" (some 0) with kind := .array 9 (.object "java/lang/Throwable"), interfaces := #[33, 2], accessFlags := 1041 }

def heap : Heap := #[{ cls := 7, slots := #[.long 0, .int 1, .null, .int 0, .null, .int 0, .int 0], vm := .statics 7 },
  { cls := 9, slots := #[.long 0, .ref 4, .ref 5, .null, .null, .null, .null, .ref 6, .int 1], vm := .statics 9 },
  { cls := 21, slots := #[.null, .null, .null], vm := .statics 21 },
  { cls := 23, slots := #[.int 0, .int 0, .int 0, .int 0, .int 0, .int 0, .int 0, .int 0, .null, .null, .ref 5, .null], vm := .statics 23 },
  { cls := 41, slots := #[], vm := .none },
  { cls := 31, slots := #[.int 0], vm := .none },
  { cls := 42, slots := #[], vm := .none }]
def classes : Array Class := #[k0, k1, k2, k3, k4, k5, k6, k7, k8, k9, k10, k11, k12, k13, k14, k15, k16, k17, k18, k19, k20, k21, k22, k23, k24, k25, k26, k27, k28, k29, k30, k31, k32, k33, k34, k35, k36, k37, k38, k39, k40, k41, k42]
def interned : List (Array UInt16 × Addr) := []
def slotsUsed : Nat := 32
def theMethod : MethodId := ⟨1, 1⟩
def args0 : Array Value := #[.int 16705, .int 16705, .int 258]
def aboutOver (below : List Frame) : State where
  vm := { classes := classes, interned := interned.toArray }
  heap := heap
  slotsUsed := slotsUsed
  threads := #[{ frames := .invoking theMethod args0 :: below }]
def below0 : List Frame := [.native { method := ⟨0, 0⟩, args := #[] }]
def about1 : State := aboutOver below0
def p0 : Program := .bare "" "" ""
def e0 : Env := launch0.env 0 0 0
theorem w_frames : about1.frames = Frame.invoking theMethod args0 :: below0 := rfl
set_option maxRecDepth 65536 in
theorem w_args : argsFit about1.vm theMethod args0 = true := by decide +kernel
set_option maxRecDepth 65536 in
theorem w_heap : heapFits about1 = true := by decide +kernel
set_option maxRecDepth 65536 in
theorem w_runnable : about1.curStatus? = some .runnable := by decide +kernel
set_option maxRecDepth 65536 in
theorem w_alone : about1.alone = true := by decide +kernel
set_option maxRecDepth 65536 in
theorem w_named : about1.methodNamed? x = some theMethod := by decide +kernel
set_option maxRecDepth 65536 in
theorem w_hears : about1.hears theMethod below0 = true := by decide +kernel
set_option maxRecDepth 65536 in
theorem w_ripe : about1.ripe theMethod args0 below0 = true := by decide +kernel
theorem w_running : about1.status = .running := rfl
set_option maxRecDepth 65536 in
theorem w_room : about1.hasRoom e0.platform room_1 = true :=
  launch0.hasRoom_least _ room_1 (by decide +kernel) (by decide +kernel) (by decide +kernel) (by decide +kernel) (by decide +kernel) (by decide +kernel)
theorem allAtoms_all (ts : List Jvm.Cond) (a : Array Jvm.Value) (st : Jvm.State) : (allAtoms ts).before a st = ts.all (fun c => c.before a st) := by
  induction ts with
  | nil => rfl
  | cons c t ih =>
    show (Jvm.Cond.and c (allAtoms t)).before a st = _
    rw [Jvm.Cond.before_and, ih, List.all_cons]
def words1 : List Jvm.Cond := Jvm.Cond.code x code maxLocals ret :: tables_1
/-- a 'code' word, met by the world's own term for the bytes: nothing is compared byte by byte -/
theorem code_word {y : MethodName} {bytes : ByteArray} {mx : Nat} {rt : Option FieldType} {a : Array Value} {s : State} {m : MethodId} {meth : Method} {c : Code} (h1 : s.methodNamed? y = some m) (h2 : s.vm.method? m = some meth) (h3 : meth.code = some c) (h4 : c.code = bytes)
    (h5 : (c.maxLocals == mx && c.exceptionTable.isEmpty && decide (c.maxStack ≤ mostOperands) && decide (meth.sig.returnType = rt) && !meth.locks && decide (parseMethodDescriptor y.desc = some meth.sig)) = true) : (Jvm.Cond.code y bytes mx rt).before a s = true := by
  simp only [Bool.and_eq_true, beq_iff_eq, Bool.not_eq_true', decide_eq_true_eq] at h5
  obtain ⟨⟨⟨⟨⟨g1, g2⟩, g3⟩, g4⟩, g5⟩, g6⟩ := h5
  simp [Cond.before, Cond.holds, Cond.value, h1, h2, h3, h4, g1, g2, g3, g4, g5, g6]
def isCode : Jvm.Cond → Bool
  | .code _ _ _ _ => true
  | _ => false
theorem all_split {L : List Jvm.Cond} {P : Jvm.Cond → Bool} (h1 : L.all (fun c => isCode c || P c) = true) (h2 : ∀ c ∈ L.filter isCode, P c = true) : L.all P = true := by
  refine List.all_eq_true.mpr fun c hc => ?_
  have h := List.all_eq_true.mp h1 c hc
  rcases Bool.eq_false_or_eq_true (isCode c) with hi | hi
  · exact h2 c (List.mem_filter.mpr ⟨hc, hi⟩)
  · simpa [hi] using h
set_option maxRecDepth 65536 in
theorem w_c0 : (Jvm.Cond.code x code maxLocals ret).before args0 about1 = true := code_word (m := ⟨1, 1⟩) (meth := k1m1) (c := k1c1) (by decide +kernel) rfl rfl rfl (by decide +kernel)
set_option maxRecDepth 65536 in
theorem w_c1 : (Jvm.Cond.code ({ cls := "com/example/hallstatt/hallstatt/InvalidValueExceptionWithinPinLaw", name := "mk", desc := "(III)Ljava/lang/String;" } : Jvm.MethodName) method_3_code (3 : Nat) (Option.some (Jvm.ClassFile.FieldType.object "java/lang/String"))).before args0 about1 = true := code_word (m := ⟨1, 2⟩) (meth := k1m2) (c := k1c2) (by decide +kernel) rfl rfl rfl (by decide +kernel)
set_option maxRecDepth 65536 in
theorem w_c2 : (Jvm.Cond.code ({ cls := "java/lang/String", name := "<init>", desc := "([C)V" } : Jvm.MethodName) jdk_42_method_3_code (2 : Nat) (Option.none : Option Jvm.ClassFile.FieldType)).before args0 about1 = true := code_word (m := ⟨7, 1⟩) (meth := k7m1) (c := k7c1) (by decide +kernel) rfl rfl rfl (by decide +kernel)
set_option maxRecDepth 65536 in
theorem w_c3 : (Jvm.Cond.code ({ cls := "java/lang/String", name := "<init>", desc := "([CIILjava/lang/Void;)V" } : Jvm.MethodName) jdk_42_method_149_code (6 : Nat) (Option.none : Option Jvm.ClassFile.FieldType)).before args0 about1 = true := code_word (m := ⟨7, 8⟩) (meth := k7m8) (c := k7c8) (by decide +kernel) rfl rfl rfl (by decide +kernel)
set_option maxRecDepth 65536 in
theorem w_c4 : (Jvm.Cond.code ({ cls := "java/lang/Object", name := "<init>", desc := "()V" } : Jvm.MethodName) object_method_1_code (1 : Nat) (Option.none : Option Jvm.ClassFile.FieldType)).before args0 about1 = true := code_word (m := ⟨0, 0⟩) (meth := k0m0) (c := k0c0) (by decide +kernel) rfl rfl rfl (by decide +kernel)
set_option maxRecDepth 65536 in
theorem w_c5 : (Jvm.Cond.code ({ cls := "java/lang/StringUTF16", name := "compress", desc := "([CII)[B" } : Jvm.MethodName) jdk_52_method_16_code (6 : Nat) (Option.some (Jvm.ClassFile.FieldType.array Jvm.ClassFile.FieldType.byte))).before args0 about1 = true := code_word (m := ⟨8, 2⟩) (meth := k8m2) (c := k8c2) (by decide +kernel) rfl rfl rfl (by decide +kernel)
set_option maxRecDepth 65536 in
theorem w_c6 : (Jvm.Cond.code ({ cls := "java/lang/StringUTF16", name := "compress", desc := "([CI[BII)I" } : Jvm.MethodName) jdk_52_method_21_code (7 : Nat) (Option.some Jvm.ClassFile.FieldType.int)).before args0 about1 = true := code_word (m := ⟨8, 3⟩) (meth := k8m3) (c := k8c3) (by decide +kernel) rfl rfl rfl (by decide +kernel)
set_option maxRecDepth 65536 in
theorem w_c7 : (Jvm.Cond.code ({ cls := "java/lang/StringUTF16", name := "coderFromArrayLen", desc := "([BI)B" } : Jvm.MethodName) jdk_52_method_15_code (2 : Nat) (Option.some Jvm.ClassFile.FieldType.byte)).before args0 about1 = true := code_word (m := ⟨8, 1⟩) (meth := k8m1) (c := k8c1) (by decide +kernel) rfl rfl rfl (by decide +kernel)
set_option maxRecDepth 65536 in
theorem w_c8 : (Jvm.Cond.code ({ cls := "com/example/hallstatt/hallstatt/InvalidValueException", name := "<init>", desc := "(Ljava/lang/String;)V" } : Jvm.MethodName) prog_3_method_1_code (2 : Nat) (Option.none : Option Jvm.ClassFile.FieldType)).before args0 about1 = true := code_word (m := ⟨13, 0⟩) (meth := k13m0) (c := k13c0) (by decide +kernel) rfl rfl rfl (by decide +kernel)
set_option maxRecDepth 65536 in
theorem w_c9 : (Jvm.Cond.code ({ cls := "java/lang/IllegalArgumentException", name := "<init>", desc := "(Ljava/lang/String;)V" } : Jvm.MethodName) jdk_57_method_2_code (2 : Nat) (Option.none : Option Jvm.ClassFile.FieldType)).before args0 about1 = true := code_word (m := ⟨12, 1⟩) (meth := k12m1) (c := k12c1) (by decide +kernel) rfl rfl rfl (by decide +kernel)
set_option maxRecDepth 65536 in
theorem w_c10 : (Jvm.Cond.code ({ cls := "java/lang/RuntimeException", name := "<init>", desc := "(Ljava/lang/String;)V" } : Jvm.MethodName) jdk_58_method_2_code (2 : Nat) (Option.none : Option Jvm.ClassFile.FieldType)).before args0 about1 = true := code_word (m := ⟨11, 1⟩) (meth := k11m1) (c := k11c1) (by decide +kernel) rfl rfl rfl (by decide +kernel)
set_option maxRecDepth 65536 in
theorem w_c11 : (Jvm.Cond.code ({ cls := "java/lang/Exception", name := "<init>", desc := "(Ljava/lang/String;)V" } : Jvm.MethodName) jdk_59_method_2_code (2 : Nat) (Option.none : Option Jvm.ClassFile.FieldType)).before args0 about1 = true := code_word (m := ⟨10, 1⟩) (meth := k10m1) (c := k10c1) (by decide +kernel) rfl rfl rfl (by decide +kernel)
set_option maxRecDepth 65536 in
theorem w_c12 : (Jvm.Cond.code ({ cls := "java/lang/Throwable", name := "<init>", desc := "(Ljava/lang/String;)V" } : Jvm.MethodName) jdk_78_method_2_code (2 : Nat) (Option.none : Option Jvm.ClassFile.FieldType)).before args0 about1 = true := code_word (m := ⟨9, 1⟩) (meth := k9m1) (c := k9c1) (by decide +kernel) rfl rfl rfl (by decide +kernel)
set_option maxRecDepth 65536 in
theorem w_c13 : (Jvm.Cond.code ({ cls := "java/lang/Throwable", name := "<init>", desc := "()V" } : Jvm.MethodName) jdk_78_method_1_code (1 : Nat) (Option.none : Option Jvm.ClassFile.FieldType)).before args0 about1 = true := code_word (m := ⟨9, 0⟩) (meth := k9m0) (c := k9c0) (by decide +kernel) rfl rfl rfl (by decide +kernel)
set_option maxRecDepth 65536 in
theorem w_c14 : (Jvm.Cond.code ({ cls := "com/example/hallstatt/hallstatt/InvalidValueException", name := "within", desc := "(Ljava/lang/String;)Lcom/example/hallstatt/hallstatt/InvalidValueException;" } : Jvm.MethodName) prog_3_method_2_code (2 : Nat) (Option.some (Jvm.ClassFile.FieldType.object "com/example/hallstatt/hallstatt/InvalidValueException"))).before args0 about1 = true := code_word (m := ⟨13, 1⟩) (meth := k13m1) (c := k13c1) (by decide +kernel) rfl rfl rfl (by decide +kernel)
set_option maxRecDepth 65536 in
theorem w_c15 : (Jvm.Cond.code ({ cls := "java/lang/StringBuilder", name := "<init>", desc := "()V" } : Jvm.MethodName) jdk_67_method_1_code (1 : Nat) (Option.none : Option Jvm.ClassFile.FieldType)).before args0 about1 = true := code_word (m := ⟨16, 0⟩) (meth := k16m0) (c := k16c0) (by decide +kernel) rfl rfl rfl (by decide +kernel)
set_option maxRecDepth 65536 in
theorem w_c16 : (Jvm.Cond.code ({ cls := "java/lang/AbstractStringBuilder", name := "<init>", desc := "(I)V" } : Jvm.MethodName) jdk_68_method_2_code (2 : Nat) (Option.none : Option Jvm.ClassFile.FieldType)).before args0 about1 = true := code_word (m := ⟨15, 1⟩) (meth := k15m1) (c := k15c1) (by decide +kernel) rfl rfl rfl (by decide +kernel)
set_option maxRecDepth 65536 in
theorem w_c17 : (Jvm.Cond.code ({ cls := "java/lang/StringBuilder", name := "append", desc := "(Ljava/lang/String;)Ljava/lang/StringBuilder;" } : Jvm.MethodName) jdk_67_method_7_code (2 : Nat) (Option.some (Jvm.ClassFile.FieldType.object "java/lang/StringBuilder"))).before args0 about1 = true := code_word (m := ⟨16, 1⟩) (meth := k16m1) (c := k16c1) (by decide +kernel) rfl rfl rfl (by decide +kernel)
set_option maxRecDepth 65536 in
theorem w_c18 : (Jvm.Cond.code ({ cls := "java/lang/AbstractStringBuilder", name := "append", desc := "(Ljava/lang/String;)Ljava/lang/AbstractStringBuilder;" } : Jvm.MethodName) jdk_68_method_22_code (3 : Nat) (Option.some (Jvm.ClassFile.FieldType.object "java/lang/AbstractStringBuilder"))).before args0 about1 = true := code_word (m := ⟨15, 4⟩) (meth := k15m4) (c := k15c4) (by decide +kernel) rfl rfl rfl (by decide +kernel)
set_option maxRecDepth 65536 in
theorem w_c19 : (Jvm.Cond.code ({ cls := "java/lang/String", name := "length", desc := "()I" } : Jvm.MethodName) jdk_42_method_54_code (1 : Nat) (Option.some Jvm.ClassFile.FieldType.int)).before args0 about1 = true := code_word (m := ⟨7, 3⟩) (meth := k7m3) (c := k7c3) (by decide +kernel) rfl rfl rfl (by decide +kernel)
set_option maxRecDepth 65536 in
theorem w_c20 : (Jvm.Cond.code ({ cls := "java/lang/String", name := "coder", desc := "()B" } : Jvm.MethodName) jdk_42_method_152_code (1 : Nat) (Option.some Jvm.ClassFile.FieldType.byte)).before args0 about1 = true := code_word (m := ⟨7, 11⟩) (meth := k7m11) (c := k7c11) (by decide +kernel) rfl rfl rfl (by decide +kernel)
set_option maxRecDepth 65536 in
theorem w_c21 : (Jvm.Cond.code ({ cls := "java/lang/AbstractStringBuilder", name := "ensureCapacityInternal", desc := "(I)V" } : Jvm.MethodName) jdk_68_method_9_code (3 : Nat) (Option.none : Option Jvm.ClassFile.FieldType)).before args0 about1 = true := code_word (m := ⟨15, 3⟩) (meth := k15m3) (c := k15c3) (by decide +kernel) rfl rfl rfl (by decide +kernel)
set_option maxRecDepth 65536 in
theorem w_c22 : (Jvm.Cond.code ({ cls := "java/lang/AbstractStringBuilder", name := "putStringAt", desc := "(ILjava/lang/String;)V" } : Jvm.MethodName) jdk_68_method_73_code (3 : Nat) (Option.none : Option Jvm.ClassFile.FieldType)).before args0 about1 = true := code_word (m := ⟨15, 8⟩) (meth := k15m8) (c := k15c8) (by decide +kernel) rfl rfl rfl (by decide +kernel)
set_option maxRecDepth 65536 in
theorem w_c23 : (Jvm.Cond.code ({ cls := "java/lang/AbstractStringBuilder", name := "inflateIfNeededFor", desc := "(Ljava/lang/String;)V" } : Jvm.MethodName) jdk_68_method_71_code (2 : Nat) (Option.none : Option Jvm.ClassFile.FieldType)).before args0 about1 = true := code_word (m := ⟨15, 7⟩) (meth := k15m7) (c := k15c7) (by decide +kernel) rfl rfl rfl (by decide +kernel)
set_option maxRecDepth 65536 in
theorem w_c24 : (Jvm.Cond.code ({ cls := "java/lang/String", name := "getBytes", desc := "([BIB)V" } : Jvm.MethodName) jdk_42_method_147_code (4 : Nat) (Option.none : Option Jvm.ClassFile.FieldType)).before args0 about1 = true := code_word (m := ⟨7, 7⟩) (meth := k7m7) (c := k7c7) (by decide +kernel) rfl rfl rfl (by decide +kernel)
set_option maxRecDepth 65536 in
theorem w_c25 : (Jvm.Cond.code ({ cls := "java/lang/Throwable", name := "getMessage", desc := "()Ljava/lang/String;" } : Jvm.MethodName) jdk_78_method_6_code (1 : Nat) (Option.some (Jvm.ClassFile.FieldType.object "java/lang/String"))).before args0 about1 = true := code_word (m := ⟨9, 2⟩) (meth := k9m2) (c := k9c2) (by decide +kernel) rfl rfl rfl (by decide +kernel)
set_option maxRecDepth 65536 in
theorem w_c26 : (Jvm.Cond.code ({ cls := "java/lang/StringBuilder", name := "toString", desc := "()Ljava/lang/String;" } : Jvm.MethodName) jdk_67_method_42_code (1 : Nat) (Option.some (Jvm.ClassFile.FieldType.object "java/lang/String"))).before args0 about1 = true := code_word (m := ⟨16, 2⟩) (meth := k16m2) (c := k16c2) (by decide +kernel) rfl rfl rfl (by decide +kernel)
set_option maxRecDepth 65536 in
theorem w_c27 : (Jvm.Cond.code ({ cls := "java/lang/String", name := "<init>", desc := "(Ljava/lang/StringBuilder;)V" } : Jvm.MethodName) jdk_42_method_53_code (2 : Nat) (Option.none : Option Jvm.ClassFile.FieldType)).before args0 about1 = true := code_word (m := ⟨7, 2⟩) (meth := k7m2) (c := k7c2) (by decide +kernel) rfl rfl rfl (by decide +kernel)
set_option maxRecDepth 65536 in
theorem w_c28 : (Jvm.Cond.code ({ cls := "java/lang/String", name := "<init>", desc := "(Ljava/lang/AbstractStringBuilder;Ljava/lang/Void;)V" } : Jvm.MethodName) jdk_42_method_150_code (5 : Nat) (Option.none : Option Jvm.ClassFile.FieldType)).before args0 about1 = true := code_word (m := ⟨7, 9⟩) (meth := k7m9) (c := k7c9) (by decide +kernel) rfl rfl rfl (by decide +kernel)
set_option maxRecDepth 65536 in
theorem w_c29 : (Jvm.Cond.code ({ cls := "java/lang/AbstractStringBuilder", name := "getValue", desc := "()[B" } : Jvm.MethodName) jdk_68_method_64_code (1 : Nat) (Option.some (Jvm.ClassFile.FieldType.array Jvm.ClassFile.FieldType.byte))).before args0 about1 = true := code_word (m := ⟨15, 5⟩) (meth := k15m5) (c := k15c5) (by decide +kernel) rfl rfl rfl (by decide +kernel)
set_option maxRecDepth 65536 in
theorem w_c30 : (Jvm.Cond.code ({ cls := "java/lang/StringBuilder", name := "length", desc := "()I" } : Jvm.MethodName) jdk_67_method_93_code (1 : Nat) (Option.some Jvm.ClassFile.FieldType.int)).before args0 about1 = true := code_word (m := ⟨16, 3⟩) (meth := k16m3) (c := k16c3) (by decide +kernel) rfl rfl rfl (by decide +kernel)
set_option maxRecDepth 65536 in
theorem w_c31 : (Jvm.Cond.code ({ cls := "java/lang/AbstractStringBuilder", name := "length", desc := "()I" } : Jvm.MethodName) jdk_68_method_6_code (1 : Nat) (Option.some Jvm.ClassFile.FieldType.int)).before args0 about1 = true := code_word (m := ⟨15, 2⟩) (meth := k15m2) (c := k15c2) (by decide +kernel) rfl rfl rfl (by decide +kernel)
set_option maxRecDepth 65536 in
theorem w_c32 : (Jvm.Cond.code ({ cls := "java/lang/AbstractStringBuilder", name := "isLatin1", desc := "()Z" } : Jvm.MethodName) jdk_68_method_68_code (1 : Nat) (Option.some Jvm.ClassFile.FieldType.boolean)).before args0 about1 = true := code_word (m := ⟨15, 6⟩) (meth := k15m6) (c := k15c6) (by decide +kernel) rfl rfl rfl (by decide +kernel)
set_option maxRecDepth 65536 in
theorem w_c33 : (Jvm.Cond.code ({ cls := "java/util/Arrays", name := "copyOfRange", desc := "([BII)[B" } : Jvm.MethodName) jdk_65_method_132_code (3 : Nat) (Option.some (Jvm.ClassFile.FieldType.array Jvm.ClassFile.FieldType.byte))).before args0 about1 = true := code_word (m := ⟨18, 2⟩) (meth := k18m2) (c := k18c2) (by decide +kernel) rfl rfl rfl (by decide +kernel)
set_option maxRecDepth 65536 in
theorem w_c34 : (Jvm.Cond.code ({ cls := "java/util/Arrays", name := "copyOfRangeByte", desc := "([BII)[B" } : Jvm.MethodName) jdk_65_method_133_code (5 : Nat) (Option.some (Jvm.ClassFile.FieldType.array Jvm.ClassFile.FieldType.byte))).before args0 about1 = true := code_word (m := ⟨18, 3⟩) (meth := k18m3) (c := k18c3) (by decide +kernel) rfl rfl rfl (by decide +kernel)
set_option maxRecDepth 65536 in
theorem w_c35 : (Jvm.Cond.code ({ cls := "java/util/Arrays", name := "checkLength", desc := "(II)V" } : Jvm.MethodName) jdk_65_method_131_code (2 : Nat) (Option.none : Option Jvm.ClassFile.FieldType)).before args0 about1 = true := code_word (m := ⟨18, 1⟩) (meth := k18m1) (c := k18c1) (by decide +kernel) rfl rfl rfl (by decide +kernel)
set_option maxRecDepth 65536 in
theorem w_c36 : (Jvm.Cond.code ({ cls := "java/lang/Math", name := "min", desc := "(II)I" } : Jvm.MethodName) jdk_29_method_69_code (2 : Nat) (Option.some Jvm.ClassFile.FieldType.int)).before args0 about1 = true := code_word (m := ⟨19, 1⟩) (meth := k19m1) (c := k19c1) (by decide +kernel) rfl rfl rfl (by decide +kernel)
set_option maxRecDepth 65536 in
theorem w_c37 : (Jvm.Cond.code ({ cls := "com/example/hallstatt/hallstatt/InvalidValueExceptionWithinPinLaw", name := "at", desc := "(Ljava/lang/String;Ljava/lang/String;Ljava/lang/String;I)Z" } : Jvm.MethodName) method_4_code (5 : Nat) (Option.some Jvm.ClassFile.FieldType.boolean)).before args0 about1 = true := code_word (m := ⟨1, 3⟩) (meth := k1m3) (c := k1c3) (by decide +kernel) rfl rfl rfl (by decide +kernel)
set_option maxRecDepth 65536 in
theorem w_c38 : (Jvm.Cond.code ({ cls := "java/lang/String", name := "charAt", desc := "(I)C" } : Jvm.MethodName) jdk_42_method_56_code (2 : Nat) (Option.some Jvm.ClassFile.FieldType.char)).before args0 about1 = true := code_word (m := ⟨7, 4⟩) (meth := k7m4) (c := k7c4) (by decide +kernel) rfl rfl rfl (by decide +kernel)
set_option maxRecDepth 65536 in
theorem w_c39 : (Jvm.Cond.code ({ cls := "java/lang/String", name := "isLatin1", desc := "()Z" } : Jvm.MethodName) jdk_42_method_154_code (1 : Nat) (Option.some Jvm.ClassFile.FieldType.boolean)).before args0 about1 = true := code_word (m := ⟨7, 12⟩) (meth := k7m12) (c := k7c12) (by decide +kernel) rfl rfl rfl (by decide +kernel)
set_option maxRecDepth 65536 in
theorem w_c40 : (Jvm.Cond.code ({ cls := "java/lang/StringLatin1", name := "charAt", desc := "([BI)C" } : Jvm.MethodName) jdk_43_method_2_code (2 : Nat) (Option.some Jvm.ClassFile.FieldType.char)).before args0 about1 = true := code_word (m := ⟨20, 1⟩) (meth := k20m1) (c := k20c1) (by decide +kernel) rfl rfl rfl (by decide +kernel)
set_option maxRecDepth 65536 in
theorem w_c41 : (Jvm.Cond.code ({ cls := "java/lang/String", name := "checkIndex", desc := "(II)V" } : Jvm.MethodName) jdk_42_method_155_code (2 : Nat) (Option.none : Option Jvm.ClassFile.FieldType)).before args0 about1 = true := code_word (m := ⟨7, 13⟩) (meth := k7m13) (c := k7c13) (by decide +kernel) rfl rfl rfl (by decide +kernel)
set_option maxRecDepth 65536 in
theorem w_c42 : (Jvm.Cond.code ({ cls := "jdk/internal/util/Preconditions", name := "checkIndex", desc := "(IILjava/util/function/BiFunction;)I" } : Jvm.MethodName) jdk_41_method_11_code (3 : Nat) (Option.some Jvm.ClassFile.FieldType.int)).before args0 about1 = true := code_word (m := ⟨21, 1⟩) (meth := k21m1) (c := k21c1) (by decide +kernel) rfl rfl rfl (by decide +kernel)
set_option maxRecDepth 65536 in
theorem w_c43 : (Jvm.Cond.code ({ cls := "java/lang/String", name := "equals", desc := "(Ljava/lang/Object;)Z" } : Jvm.MethodName) jdk_42_method_66_code (3 : Nat) (Option.some Jvm.ClassFile.FieldType.boolean)).before args0 about1 = true := code_word (m := ⟨7, 5⟩) (meth := k7m5) (c := k7c5) (by decide +kernel) rfl rfl rfl (by decide +kernel)
set_option maxRecDepth 65536 in
theorem w_c44 : (Jvm.Cond.code ({ cls := "java/lang/String", name := "valueOf", desc := "(C)Ljava/lang/String;" } : Jvm.MethodName) jdk_42_method_139_code (1 : Nat) (Option.some (Jvm.ClassFile.FieldType.object "java/lang/String"))).before args0 about1 = true := code_word (m := ⟨7, 6⟩) (meth := k7m6) (c := k7c6) (by decide +kernel) rfl rfl rfl (by decide +kernel)
set_option maxRecDepth 65536 in
theorem w_c45 : (Jvm.Cond.code ({ cls := "java/lang/StringLatin1", name := "canEncode", desc := "(C)Z" } : Jvm.MethodName) jdk_43_method_3_code (1 : Nat) (Option.some Jvm.ClassFile.FieldType.boolean)).before args0 about1 = true := code_word (m := ⟨20, 2⟩) (meth := k20m2) (c := k20c2) (by decide +kernel) rfl rfl rfl (by decide +kernel)
set_option maxRecDepth 65536 in
theorem w_c46 : (Jvm.Cond.code ({ cls := "java/lang/StringLatin1", name := "toBytes", desc := "(C)[B" } : Jvm.MethodName) jdk_43_method_46_code (1 : Nat) (Option.some (Jvm.ClassFile.FieldType.array Jvm.ClassFile.FieldType.byte))).before args0 about1 = true := code_word (m := ⟨20, 3⟩) (meth := k20m3) (c := k20c3) (by decide +kernel) rfl rfl rfl (by decide +kernel)
set_option maxRecDepth 65536 in
theorem w_c47 : (Jvm.Cond.code ({ cls := "java/lang/String", name := "<init>", desc := "([BB)V" } : Jvm.MethodName) jdk_42_method_151_code (3 : Nat) (Option.none : Option Jvm.ClassFile.FieldType)).before args0 about1 = true := code_word (m := ⟨7, 10⟩) (meth := k7m10) (c := k7c10) (by decide +kernel) rfl rfl rfl (by decide +kernel)
def codes1 : List Jvm.Cond := [Jvm.Cond.code x code maxLocals ret, Jvm.Cond.code ({ cls := "com/example/hallstatt/hallstatt/InvalidValueExceptionWithinPinLaw", name := "mk", desc := "(III)Ljava/lang/String;" } : Jvm.MethodName) method_3_code (3 : Nat) (Option.some (Jvm.ClassFile.FieldType.object "java/lang/String")), Jvm.Cond.code ({ cls := "java/lang/String", name := "<init>", desc := "([C)V" } : Jvm.MethodName) jdk_42_method_3_code (2 : Nat) (Option.none : Option Jvm.ClassFile.FieldType), Jvm.Cond.code ({ cls := "java/lang/String", name := "<init>", desc := "([CIILjava/lang/Void;)V" } : Jvm.MethodName) jdk_42_method_149_code (6 : Nat) (Option.none : Option Jvm.ClassFile.FieldType), Jvm.Cond.code ({ cls := "java/lang/Object", name := "<init>", desc := "()V" } : Jvm.MethodName) object_method_1_code (1 : Nat) (Option.none : Option Jvm.ClassFile.FieldType), Jvm.Cond.code ({ cls := "java/lang/StringUTF16", name := "compress", desc := "([CII)[B" } : Jvm.MethodName) jdk_52_method_16_code (6 : Nat) (Option.some (Jvm.ClassFile.FieldType.array Jvm.ClassFile.FieldType.byte)), Jvm.Cond.code ({ cls := "java/lang/StringUTF16", name := "compress", desc := "([CI[BII)I" } : Jvm.MethodName) jdk_52_method_21_code (7 : Nat) (Option.some Jvm.ClassFile.FieldType.int), Jvm.Cond.code ({ cls := "java/lang/StringUTF16", name := "coderFromArrayLen", desc := "([BI)B" } : Jvm.MethodName) jdk_52_method_15_code (2 : Nat) (Option.some Jvm.ClassFile.FieldType.byte), Jvm.Cond.code ({ cls := "com/example/hallstatt/hallstatt/InvalidValueException", name := "<init>", desc := "(Ljava/lang/String;)V" } : Jvm.MethodName) prog_3_method_1_code (2 : Nat) (Option.none : Option Jvm.ClassFile.FieldType), Jvm.Cond.code ({ cls := "java/lang/IllegalArgumentException", name := "<init>", desc := "(Ljava/lang/String;)V" } : Jvm.MethodName) jdk_57_method_2_code (2 : Nat) (Option.none : Option Jvm.ClassFile.FieldType), Jvm.Cond.code ({ cls := "java/lang/RuntimeException", name := "<init>", desc := "(Ljava/lang/String;)V" } : Jvm.MethodName) jdk_58_method_2_code (2 : Nat) (Option.none : Option Jvm.ClassFile.FieldType), Jvm.Cond.code ({ cls := "java/lang/Exception", name := "<init>", desc := "(Ljava/lang/String;)V" } : Jvm.MethodName) jdk_59_method_2_code (2 : Nat) (Option.none : Option Jvm.ClassFile.FieldType), Jvm.Cond.code ({ cls := "java/lang/Throwable", name := "<init>", desc := "(Ljava/lang/String;)V" } : Jvm.MethodName) jdk_78_method_2_code (2 : Nat) (Option.none : Option Jvm.ClassFile.FieldType), Jvm.Cond.code ({ cls := "java/lang/Throwable", name := "<init>", desc := "()V" } : Jvm.MethodName) jdk_78_method_1_code (1 : Nat) (Option.none : Option Jvm.ClassFile.FieldType), Jvm.Cond.code ({ cls := "com/example/hallstatt/hallstatt/InvalidValueException", name := "within", desc := "(Ljava/lang/String;)Lcom/example/hallstatt/hallstatt/InvalidValueException;" } : Jvm.MethodName) prog_3_method_2_code (2 : Nat) (Option.some (Jvm.ClassFile.FieldType.object "com/example/hallstatt/hallstatt/InvalidValueException")), Jvm.Cond.code ({ cls := "java/lang/StringBuilder", name := "<init>", desc := "()V" } : Jvm.MethodName) jdk_67_method_1_code (1 : Nat) (Option.none : Option Jvm.ClassFile.FieldType), Jvm.Cond.code ({ cls := "java/lang/AbstractStringBuilder", name := "<init>", desc := "(I)V" } : Jvm.MethodName) jdk_68_method_2_code (2 : Nat) (Option.none : Option Jvm.ClassFile.FieldType), Jvm.Cond.code ({ cls := "java/lang/StringBuilder", name := "append", desc := "(Ljava/lang/String;)Ljava/lang/StringBuilder;" } : Jvm.MethodName) jdk_67_method_7_code (2 : Nat) (Option.some (Jvm.ClassFile.FieldType.object "java/lang/StringBuilder")), Jvm.Cond.code ({ cls := "java/lang/AbstractStringBuilder", name := "append", desc := "(Ljava/lang/String;)Ljava/lang/AbstractStringBuilder;" } : Jvm.MethodName) jdk_68_method_22_code (3 : Nat) (Option.some (Jvm.ClassFile.FieldType.object "java/lang/AbstractStringBuilder")), Jvm.Cond.code ({ cls := "java/lang/String", name := "length", desc := "()I" } : Jvm.MethodName) jdk_42_method_54_code (1 : Nat) (Option.some Jvm.ClassFile.FieldType.int), Jvm.Cond.code ({ cls := "java/lang/String", name := "coder", desc := "()B" } : Jvm.MethodName) jdk_42_method_152_code (1 : Nat) (Option.some Jvm.ClassFile.FieldType.byte), Jvm.Cond.code ({ cls := "java/lang/AbstractStringBuilder", name := "ensureCapacityInternal", desc := "(I)V" } : Jvm.MethodName) jdk_68_method_9_code (3 : Nat) (Option.none : Option Jvm.ClassFile.FieldType), Jvm.Cond.code ({ cls := "java/lang/AbstractStringBuilder", name := "putStringAt", desc := "(ILjava/lang/String;)V" } : Jvm.MethodName) jdk_68_method_73_code (3 : Nat) (Option.none : Option Jvm.ClassFile.FieldType), Jvm.Cond.code ({ cls := "java/lang/AbstractStringBuilder", name := "inflateIfNeededFor", desc := "(Ljava/lang/String;)V" } : Jvm.MethodName) jdk_68_method_71_code (2 : Nat) (Option.none : Option Jvm.ClassFile.FieldType), Jvm.Cond.code ({ cls := "java/lang/String", name := "getBytes", desc := "([BIB)V" } : Jvm.MethodName) jdk_42_method_147_code (4 : Nat) (Option.none : Option Jvm.ClassFile.FieldType), Jvm.Cond.code ({ cls := "java/lang/Throwable", name := "getMessage", desc := "()Ljava/lang/String;" } : Jvm.MethodName) jdk_78_method_6_code (1 : Nat) (Option.some (Jvm.ClassFile.FieldType.object "java/lang/String")), Jvm.Cond.code ({ cls := "java/lang/StringBuilder", name := "toString", desc := "()Ljava/lang/String;" } : Jvm.MethodName) jdk_67_method_42_code (1 : Nat) (Option.some (Jvm.ClassFile.FieldType.object "java/lang/String")), Jvm.Cond.code ({ cls := "java/lang/String", name := "<init>", desc := "(Ljava/lang/StringBuilder;)V" } : Jvm.MethodName) jdk_42_method_53_code (2 : Nat) (Option.none : Option Jvm.ClassFile.FieldType), Jvm.Cond.code ({ cls := "java/lang/String", name := "<init>", desc := "(Ljava/lang/AbstractStringBuilder;Ljava/lang/Void;)V" } : Jvm.MethodName) jdk_42_method_150_code (5 : Nat) (Option.none : Option Jvm.ClassFile.FieldType), Jvm.Cond.code ({ cls := "java/lang/AbstractStringBuilder", name := "getValue", desc := "()[B" } : Jvm.MethodName) jdk_68_method_64_code (1 : Nat) (Option.some (Jvm.ClassFile.FieldType.array Jvm.ClassFile.FieldType.byte)), Jvm.Cond.code ({ cls := "java/lang/StringBuilder", name := "length", desc := "()I" } : Jvm.MethodName) jdk_67_method_93_code (1 : Nat) (Option.some Jvm.ClassFile.FieldType.int), Jvm.Cond.code ({ cls := "java/lang/AbstractStringBuilder", name := "length", desc := "()I" } : Jvm.MethodName) jdk_68_method_6_code (1 : Nat) (Option.some Jvm.ClassFile.FieldType.int), Jvm.Cond.code ({ cls := "java/lang/AbstractStringBuilder", name := "isLatin1", desc := "()Z" } : Jvm.MethodName) jdk_68_method_68_code (1 : Nat) (Option.some Jvm.ClassFile.FieldType.boolean), Jvm.Cond.code ({ cls := "java/util/Arrays", name := "copyOfRange", desc := "([BII)[B" } : Jvm.MethodName) jdk_65_method_132_code (3 : Nat) (Option.some (Jvm.ClassFile.FieldType.array Jvm.ClassFile.FieldType.byte)), Jvm.Cond.code ({ cls := "java/util/Arrays", name := "copyOfRangeByte", desc := "([BII)[B" } : Jvm.MethodName) jdk_65_method_133_code (5 : Nat) (Option.some (Jvm.ClassFile.FieldType.array Jvm.ClassFile.FieldType.byte)), Jvm.Cond.code ({ cls := "java/util/Arrays", name := "checkLength", desc := "(II)V" } : Jvm.MethodName) jdk_65_method_131_code (2 : Nat) (Option.none : Option Jvm.ClassFile.FieldType), Jvm.Cond.code ({ cls := "java/lang/Math", name := "min", desc := "(II)I" } : Jvm.MethodName) jdk_29_method_69_code (2 : Nat) (Option.some Jvm.ClassFile.FieldType.int), Jvm.Cond.code ({ cls := "com/example/hallstatt/hallstatt/InvalidValueExceptionWithinPinLaw", name := "at", desc := "(Ljava/lang/String;Ljava/lang/String;Ljava/lang/String;I)Z" } : Jvm.MethodName) method_4_code (5 : Nat) (Option.some Jvm.ClassFile.FieldType.boolean), Jvm.Cond.code ({ cls := "java/lang/String", name := "charAt", desc := "(I)C" } : Jvm.MethodName) jdk_42_method_56_code (2 : Nat) (Option.some Jvm.ClassFile.FieldType.char), Jvm.Cond.code ({ cls := "java/lang/String", name := "isLatin1", desc := "()Z" } : Jvm.MethodName) jdk_42_method_154_code (1 : Nat) (Option.some Jvm.ClassFile.FieldType.boolean), Jvm.Cond.code ({ cls := "java/lang/StringLatin1", name := "charAt", desc := "([BI)C" } : Jvm.MethodName) jdk_43_method_2_code (2 : Nat) (Option.some Jvm.ClassFile.FieldType.char), Jvm.Cond.code ({ cls := "java/lang/String", name := "checkIndex", desc := "(II)V" } : Jvm.MethodName) jdk_42_method_155_code (2 : Nat) (Option.none : Option Jvm.ClassFile.FieldType), Jvm.Cond.code ({ cls := "jdk/internal/util/Preconditions", name := "checkIndex", desc := "(IILjava/util/function/BiFunction;)I" } : Jvm.MethodName) jdk_41_method_11_code (3 : Nat) (Option.some Jvm.ClassFile.FieldType.int), Jvm.Cond.code ({ cls := "java/lang/String", name := "equals", desc := "(Ljava/lang/Object;)Z" } : Jvm.MethodName) jdk_42_method_66_code (3 : Nat) (Option.some Jvm.ClassFile.FieldType.boolean), Jvm.Cond.code ({ cls := "java/lang/String", name := "valueOf", desc := "(C)Ljava/lang/String;" } : Jvm.MethodName) jdk_42_method_139_code (1 : Nat) (Option.some (Jvm.ClassFile.FieldType.object "java/lang/String")), Jvm.Cond.code ({ cls := "java/lang/StringLatin1", name := "canEncode", desc := "(C)Z" } : Jvm.MethodName) jdk_43_method_3_code (1 : Nat) (Option.some Jvm.ClassFile.FieldType.boolean), Jvm.Cond.code ({ cls := "java/lang/StringLatin1", name := "toBytes", desc := "(C)[B" } : Jvm.MethodName) jdk_43_method_46_code (1 : Nat) (Option.some (Jvm.ClassFile.FieldType.array Jvm.ClassFile.FieldType.byte)), Jvm.Cond.code ({ cls := "java/lang/String", name := "<init>", desc := "([BB)V" } : Jvm.MethodName) jdk_42_method_151_code (3 : Nat) (Option.none : Option Jvm.ClassFile.FieldType)]
set_option maxRecDepth 65536 in
theorem codes_eq : words1.filter isCode = codes1 := rfl
theorem w_codes : ∀ c ∈ words1.filter isCode, c.before args0 about1 = true := by
  rw [codes_eq]
  intro c hc
  simp only [codes1, List.mem_cons, List.not_mem_nil, or_false] at hc
  rcases hc with rfl | rfl | rfl | rfl | rfl | rfl | rfl | rfl | rfl | rfl | rfl | rfl | rfl | rfl | rfl | rfl | rfl | rfl | rfl | rfl | rfl | rfl | rfl | rfl | rfl | rfl | rfl | rfl | rfl | rfl | rfl | rfl | rfl | rfl | rfl | rfl | rfl | rfl | rfl | rfl | rfl | rfl | rfl | rfl | rfl | rfl | rfl | rfl
  · exact w_c0
  · exact w_c1
  · exact w_c2
  · exact w_c3
  · exact w_c4
  · exact w_c5
  · exact w_c6
  · exact w_c7
  · exact w_c8
  · exact w_c9
  · exact w_c10
  · exact w_c11
  · exact w_c12
  · exact w_c13
  · exact w_c14
  · exact w_c15
  · exact w_c16
  · exact w_c17
  · exact w_c18
  · exact w_c19
  · exact w_c20
  · exact w_c21
  · exact w_c22
  · exact w_c23
  · exact w_c24
  · exact w_c25
  · exact w_c26
  · exact w_c27
  · exact w_c28
  · exact w_c29
  · exact w_c30
  · exact w_c31
  · exact w_c32
  · exact w_c33
  · exact w_c34
  · exact w_c35
  · exact w_c36
  · exact w_c37
  · exact w_c38
  · exact w_c39
  · exact w_c40
  · exact w_c41
  · exact w_c42
  · exact w_c43
  · exact w_c44
  · exact w_c45
  · exact w_c46
  · exact w_c47
set_option maxRecDepth 65536 in
theorem w_t1 : (words1.take 24).all (fun c => isCode c || c.before args0 about1) = true := by decide +kernel
set_option maxRecDepth 65536 in
theorem w_t2 : ((words1.drop 24).take 24).all (fun c => isCode c || c.before args0 about1) = true := by decide +kernel
set_option maxRecDepth 65536 in
theorem w_t3 : (((words1.drop 24).drop 24).take 24).all (fun c => isCode c || c.before args0 about1) = true := by decide +kernel
set_option maxRecDepth 65536 in
theorem w_t4 : ((((words1.drop 24).drop 24).drop 24).take 24).all (fun c => isCode c || c.before args0 about1) = true := by decide +kernel
set_option maxRecDepth 65536 in
theorem w_t5 : (((((words1.drop 24).drop 24).drop 24).drop 24).take 24).all (fun c => isCode c || c.before args0 about1) = true := by decide +kernel
set_option maxRecDepth 65536 in
theorem w_t6 : ((((((words1.drop 24).drop 24).drop 24).drop 24).drop 24).take 24).all (fun c => isCode c || c.before args0 about1) = true := by decide +kernel
set_option maxRecDepth 65536 in
theorem w_t7 : (((((((words1.drop 24).drop 24).drop 24).drop 24).drop 24).drop 24).take 24).all (fun c => isCode c || c.before args0 about1) = true := by decide +kernel
set_option maxRecDepth 65536 in
theorem w_t8 : ((((((((words1.drop 24).drop 24).drop 24).drop 24).drop 24).drop 24).drop 24).take 24).all (fun c => isCode c || c.before args0 about1) = true := by decide +kernel
set_option maxRecDepth 65536 in
theorem w_t9 : (((((((((words1.drop 24).drop 24).drop 24).drop 24).drop 24).drop 24).drop 24).drop 24).take 24).all (fun c => isCode c || c.before args0 about1) = true := by decide +kernel
set_option maxRecDepth 65536 in
theorem w_t10 : ((((((((((words1.drop 24).drop 24).drop 24).drop 24).drop 24).drop 24).drop 24).drop 24).drop 24).take 24).all (fun c => isCode c || c.before args0 about1) = true := by decide +kernel
set_option maxRecDepth 65536 in
theorem w_t11 : (((((((((((words1.drop 24).drop 24).drop 24).drop 24).drop 24).drop 24).drop 24).drop 24).drop 24).drop 24).take 24).all (fun c => isCode c || c.before args0 about1) = true := by decide +kernel
set_option maxRecDepth 65536 in
theorem w_t12 : (((((((((((words1.drop 24).drop 24).drop 24).drop 24).drop 24).drop 24).drop 24).drop 24).drop 24).drop 24).drop 24).all (fun c => isCode c || c.before args0 about1) = true := by decide +kernel
theorem w_tables : (allAtoms (Jvm.Cond.code x code maxLocals ret :: tables_1)).before args0 about1 = true := by
  rw [allAtoms_all]
  show words1.all (fun c => c.before args0 about1) = true
  refine all_split ?_ w_codes
  rw [← List.take_append_drop 24 words1, List.all_append, w_t1, ← List.take_append_drop 24 (words1.drop 24), List.all_append, w_t2, ← List.take_append_drop 24 ((words1.drop 24).drop 24), List.all_append, w_t3, ← List.take_append_drop 24 (((words1.drop 24).drop 24).drop 24), List.all_append, w_t4, ← List.take_append_drop 24 ((((words1.drop 24).drop 24).drop 24).drop 24), List.all_append, w_t5, ← List.take_append_drop 24 (((((words1.drop 24).drop 24).drop 24).drop 24).drop 24), List.all_append, w_t6, ← List.take_append_drop 24 ((((((words1.drop 24).drop 24).drop 24).drop 24).drop 24).drop 24), List.all_append, w_t7, ← List.take_append_drop 24 (((((((words1.drop 24).drop 24).drop 24).drop 24).drop 24).drop 24).drop 24), List.all_append, w_t8, ← List.take_append_drop 24 ((((((((words1.drop 24).drop 24).drop 24).drop 24).drop 24).drop 24).drop 24).drop 24), List.all_append, w_t9, ← List.take_append_drop 24 (((((((((words1.drop 24).drop 24).drop 24).drop 24).drop 24).drop 24).drop 24).drop 24).drop 24), List.all_append, w_t10, ← List.take_append_drop 24 ((((((((((words1.drop 24).drop 24).drop 24).drop 24).drop 24).drop 24).drop 24).drop 24).drop 24).drop 24), List.all_append, w_t11, w_t12]
  rfl
set_option maxRecDepth 65536 in
theorem w_rest : rest_1_c.before args0 about1 = true := by decide +kernel
set_option maxRecDepth 65536 in
theorem w_case : (Jvm.Cond.and given_1 narrow_1).before args0 about1 = true := by decide +kernel
set_option maxRecDepth 65536 in
theorem w_consts : constsHeld consts_1 about1 := Jvm.Lit.constsHeldB_iff.mp (by decide +kernel)
theorem w_applies : (headSpec (Jvm.Cond.code x code maxLocals ret :: tables_1) room_1).applies x e0.platform about1 = true :=
  (Spec.applies_iff w_frames).mpr ⟨w_running, w_runnable, w_alone, w_named, w_hears, w_ripe, w_room, w_tables⟩
theorem atStart : AtStart classFile x code maxLocals ret World_1 tables_1 room_1 Calls_1 rest_1 Pre_1 launch0 p0 e0 about1 theMethod args0 below0 :=
  ⟨lists_1, trivial, launch0.admits_env _ _ _, launch0.least_env, fairChoices_fair.cas, fairChoices_fair.clock, w_frames, w_args, w_heap, w_applies, ⟨(by decide +kernel : framesKnown about1 = true), ⟨(by decide +kernel : tablesKnown about1 = true), ⟨w_consts, trivial⟩⟩⟩, w_rest, w_case⟩
end start1
theorem witness_1 : WitnessClaimed_1 := ⟨start1.p0, start1.e0, start1.about1, start1.theMethod, start1.args0, start1.below0, start1.atStart⟩
end Jvm.Pilot.@@N@@
