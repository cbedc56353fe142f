import JvmDerived
import JvmDerived.Pilot.@@N@@Statement
import JvmDerived.Pilot.@@N@@Code
set_option linter.unusedVariables false
set_option linter.unusedSimpArgs false
namespace Jvm.Own
open Jvm Jvm.ClassFile Sem Op Lib Jvm.Free Jvm.Stand Jvm.LawKit Jvm.RoadKit Bundle
section Base
variable {p : Program} {l : Launch} {e : Env} {R : Room} {s : State} {m : MethodId} {args : Array Value} {below : List Frame} {meth : Method} {c : Code} {T : State} {locs : List Loc} {cells slots : Nat} {Z : State} {a0 : Array Value} {h : Heap}
/-- from t the run ends, and its end is as Qf says -/
def Go (p : Program) (e : Env) (below : List Frame) (Qf : Outcome → State → Prop) (t : State) : Prop :=
  ∃ s₂ o, Steps p.tables e below t s₂ ∧ s₂.status = .running ∧ Ended s₂ below o ∧ Qf o s₂
theorem Go.step {Qf : Outcome → State → Prop} {t t' : State} (k : ∀ u, Steps p.tables e below t' u → Steps p.tables e below t u) (h : Go p e below Qf t') : Go p e below Qf t := by
  obtain ⟨s₂, o, h1, h2⟩ := h
  exact ⟨s₂, o, k _ h1, h2⟩
theorem own_join {Qf : Outcome → State → Prop} {t t' : State} (h : Go p e below Qf t → Go p e below Qf t') (k : Go p e below Qf t) : Go p e below Qf t' := h k
theorem own_joinA {α : Type} {P : α → Prop} {Qf : Outcome → State → Prop} {t : α → State} {t' : State} (h : (∀ v, P v → Go p e below Qf (t v)) → Go p e below Qf t') (k : ∀ v, P v → Go p e below Qf (t v)) : Go p e below Qf t' := h k
theorem own_top {Qf : Outcome → State → Prop} {pc : Nat} {Ls : Array Slot} {rest : List Value} {a b : Value} (h : a = b) (k : Go p e below Qf (T.setTop (mkF m pc Ls (b :: rest)))) : Go p e below Qf (T.setTop (mkF m pc Ls (a :: rest))) := by subst h; exact k
/-- the end of a narrow walk -/
def QN (s : State) (rm : Room) (Q : Option Value → Heap → List Loc → Prop) (o : Outcome) (U' : State) : Prop := ∃ v L, o = .returned v ∧ Q v U'.heap L ∧ FrameEnd s o U' L rm.cells rm.slots
abbrev CN (l : Launch) (Z : State) (y : MethodName) (ws : List Jvm.Cond) (rm : Room) (as : Array Value) (h0 : Heap) (Q : Option Value → Heap → List Loc → Prop) : Prop :=
  MetFree l y (head1 ws rm) (fun a U => a = as ∧ Z.Warmed39 U.vm ∧ U.heap = h0) (fun _ _ _ _ _ => True) (fun _ U o U' => ∃ v L, o = .returned v ∧ Q v U'.heap L ∧ FrameEnd U o U' L rm.cells rm.slots)
theorem CN.of {y : MethodName} {bytes : ByteArray} {maxL : Nat} {ret : Option FieldType} {ws : List Jvm.Cond} {rm : Room} {as : Array Value} {h0 : Heap} {Q : Option Value → Heap → List Loc → Prop} {L0 : Array Slot}
    (hp : plainFor y = true) (ef : ∀ m, entryFrame m as maxL = mkF m 0 L0 [])
    (body : ∀ (p : Program) (e : Env) (s : State) (m : MethodId) (below : List Frame) (meth : Method) (c : Code) (s₁ : State), p.tables.exec = Jvm.exec → c.code = bytes → c.maxLocals = maxL → meth.sig.returnType = ret → meth.locks = false → Z.Warmed39 s.vm → s.vm.findClass y.cls = some m.cls → meth.name = y.name → Stand p l e rm s m as below meth c s₁ [] 0 0 → s₁.heap = h0 → Go p e below (QN s rm Q) (s₁.setTop (mkF m 0 L0 []))) :
    CN l Z y (Jvm.Cond.code y bytes maxL ret :: ws) rm as h0 Q := by
  refine MetFree.of_bodySF hp hisR ?_
  intro p e s m args below meth c s₁ Bd hml0 hP hK
  obtain ⟨rfl, hZ, hh⟩ := hP
  have q := body p e s m below meth c s₁ Bd.exec Bd.bytes hml0 Bd.returns Bd.notSynchronized hZ (findClass_of_methodNamed Bd.named) (name_of_methodNamed Bd.named Bd.method).1 (Stand.of_body Bd) (by rw [← hh, Bd.state]; rfl)
  rw [← ef m] at q
  exact q
theorem Go.ret {Q : Option Value → Heap → List Loc → Prop} {rm : Room} {t : State} (X : Stand p l e R s m args below meth c T locs cells slots) (hlk : meth.locks = false) (v : Option Value) (hv : meth.sig.returnType = none → v = none) (hc : cells ≤ rm.cells) (hs : slots ≤ rm.slots) (q : Q v T.heap locs)
    (st : ∀ fs, (∀ (f : JFrame) (acts : List Action), f.method = m → f.locked = none → f.entered = [] → (doReturn e (T.setTop f) acts v).1 = T.setFrames fs) → Steps p.tables e below t (T.setFrames fs)) : Go p e below (QN s rm Q) t := by
  obtain ⟨fs, hr, hrun, hended, hW, hsame⟩ := X.leave (v := v) hv hlk
  exact ⟨_, _, st fs hr, hrun, hended, v, locs, rfl, q, ⟨v, rfl⟩, hW, hsame.mono hc hs⟩
/-- a value comes back -/
theorem Go.retV {Q : Option Value → Heap → List Loc → Prop} {rm : Room} (X : Stand p l e R s m args below meth c T locs cells slots) (hx : p.tables.exec = Jvm.exec) (hlk : meth.locks = false) {pc : Nat} {Ls : Array Slot} {w : Value} {t : FieldType} {i : Instr} {rest : List Value} (hret : meth.sig.returnType = some t) (hn : narrow t w = w)
    (hi : (i = .ireturn ∧ (t = .int ∨ t = .boolean ∨ t = .byte ∨ t = .char ∨ t = .short) ∧ ∃ z, w = .int z) ∨ (i = .lreturn ∧ t = .long ∧ ∃ z, w = .long z) ∨ (i = .dreturn ∧ t = .double ∧ ∃ z, w = .double z) ∨ (i = .freturn ∧ t = .float ∧ ∃ z, w = .float z) ∨ (i = .areturn ∧ t.isReference = true ∧ w.isRef = true))
    (hd : decode c.code pc = .ok (i, 1)) (hc : cells ≤ rm.cells) (hs : slots ≤ rm.slots) (q : Q (some w) T.heap locs) : Go p e below (QN s rm Q) (T.setTop (mkF m pc Ls (w :: rest))) :=
  Go.ret X hlk (some w) (fun h => by rw [hret] at h; cases h) hc hs q fun fs hr => retOut X hx hret hn hi hd hr
/-- nothing comes back -/
theorem Go.ret0 {Q : Option Value → Heap → List Loc → Prop} {rm : Room} (X : Stand p l e R s m args below meth c T locs cells slots) (hx : p.tables.exec = Jvm.exec) (hlk : meth.locks = false) {pc : Nat} {Ls : Array Slot} (hret : meth.sig.returnType = none)
    (hd : decode c.code pc = .ok (.return_, 1)) (hc : cells ≤ rm.cells) (hs : slots ≤ rm.slots) (q : Q none T.heap locs) : Go p e below (QN s rm Q) (T.setTop (mkF m pc Ls [])) :=
  Go.ret X hlk none (fun _ => rfl) hc hs q fun fs hr => X.returnOut hx hret hd hr
/-- what pays a call -/
abbrev Pay (l : Launch) (R : Room) (p : Program) (e : Env) (below : List Frame) (s : State) (args : Array Value) (y : MethodName) (W : Nat) (as : Array Value) (h : Heap) (kc ks : Nat) (QQ : Option Value → Heap → List Loc → Prop) : Prop :=
  Back l R p e below s args y 3 W (fun P a => a = as ∧ P.U.heap = h ∧ P.cells + kc ≤ R.cells ∧ P.slots + ks ≤ R.slots) (fun P _ v B => ∃ L, QQ v B.U.heap L ∧ B.locs = P.locs ++ L ∧ B.cells = P.cells + kc ∧ B.slots = P.slots + ks)
theorem goS (X : Stand p l e R s m args below meth c T locs cells slots) (hx : p.tables.exec = Jvm.exec) (hZ : Z.Warmed39 s.vm) {own : String} {index : Nat} {y : MethodName} {bytes : ByteArray} {maxL : Nat} {ret : Option FieldType} (hown : s.vm.findClass own = some m.cls)
    (w1 : (Jvm.Cond.methodLink own index y).before a0 Z = true) (w2 : (Jvm.Cond.static y).before a0 Z = true) (w3 : (Jvm.Cond.initialized y.cls).before a0 Z = true) (w4 : (Jvm.Cond.code y bytes maxL ret).before a0 Z = true) (hy : y.cls ≠ "java/lang/invoke/MethodHandle" ∧ y.cls ≠ "java/lang/invoke/VarHandle")
    {W kc ks : Nat} {as : Array Value} {QQ : Option Value → Heap → List Loc → Prop} (K : Pay l R p e below s args y W as h kc ks QQ) (eT : T.heap = h) {g : JFrame} (hg : g.method = m) (hsize : g.locals.size = c.maxLocals) {argsL rest : List Value} (has : argsL.toArray = as)
    (hlen : ∀ sig, parseMethodDescriptor y.desc = some sig → argsL.length = sig.parameters.length) (hstack : g.stack = argsL.reverse ++ rest) (hW : 2 * g.monitorRoom + (rest.map fun v => v.category).sum ≤ W) (hd : decode c.code g.pc = .ok (.invokestatic index, 3)) (hc : cells + kc ≤ R.cells) (hs : slots + ks ≤ R.slots) :
    ∃ v T' L, Stand p l e R s m args below meth c T' (locs ++ L) (cells + kc) (slots + ks) ∧ QQ v T'.heap L ∧ ∀ u, Steps p.tables e below (T'.setTop { g with pc := g.pc + 3, stack := v.toList ++ rest }) u → Steps p.tables e below (T.setTop g) u := by
  obtain ⟨v, _, ⟨T', L', k', n'⟩, -, X', ⟨L, hQ, l1, y1, z1⟩, st⟩ := Jvm.LawKit.callS X hx hown (mvT hZ w1) (mvT hZ w2) (mvT hZ w3) (mvT hZ w4) hy K hg hsize hlen hstack hW hd (fun _ _ => ⟨has, eT, hc, hs⟩)
  try dsimp only [Pt.U, Pt.locs, Pt.cells, Pt.slots] at X' l1 y1 z1 st hQ
  subst l1 y1 z1
  exact ⟨v, T', L, X', hQ, st⟩
theorem goC (X : Stand p l e R s m args below meth c T locs cells slots) (hx : p.tables.exec = Jvm.exec) (hZ : Z.Warmed39 s.vm) {own : String} {index : Nat} {y : MethodName} {bytes : ByteArray} {maxL : Nat} (hown : s.vm.findClass own = some m.cls)
    (hy1 : y.name = "<init>") (w1 : (Jvm.Cond.methodLink own index y).before a0 Z = true) (w2 : (Jvm.Cond.instanceMethod y).before a0 Z = true) (w4 : (Jvm.Cond.code y bytes maxL none).before a0 Z = true) (hy : y.cls ≠ "java/lang/invoke/MethodHandle" ∧ y.cls ≠ "java/lang/invoke/VarHandle")
    {W kc ks : Nat} {as : Array Value} {QQ : Option Value → Heap → List Loc → Prop} (K : Pay l R p e below s args y W as h kc ks QQ) (eT : T.heap = h) {g : JFrame} (hg : g.method = m) (hsize : g.locals.size = c.maxLocals) {a : Addr} {argsL rest : List Value} (has : (.ref a :: argsL).toArray = as)
    (hlen : ∀ sig, parseMethodDescriptor y.desc = some sig → argsL.length = sig.parameters.length) (hstack : g.stack = argsL.reverse ++ .ref a :: rest) (hW : 2 * g.monitorRoom + (rest.map fun v => v.category).sum ≤ W) (hd : decode c.code g.pc = .ok (.invokespecial index, 3)) (hc : cells + kc ≤ R.cells) (hs : slots + ks ≤ R.slots) :
    ∃ v T' L, Stand p l e R s m args below meth c T' (locs ++ L) (cells + kc) (slots + ks) ∧ QQ v T'.heap L ∧ ∀ u, Steps p.tables e below (T'.setTop { g with pc := g.pc + 3, stack := v.toList ++ rest }) u → Steps p.tables e below (T.setTop g) u := by
  obtain ⟨v, _, ⟨T', L', k', n'⟩, -, X', ⟨L, hQ, l1, y1, z1⟩, st⟩ := X.specialBack hx hy1 hown (mvT hZ w1) (mvT hZ w2) (mvT hZ w4) hy K hg hsize (Steps.refl _) hlen hstack hW hd (fun _ _ => ⟨has, eT, hc, hs⟩)
  try dsimp only [Pt.U, Pt.locs, Pt.cells, Pt.slots] at X' l1 y1 z1 st hQ
  subst l1 y1 z1
  exact ⟨v, T', L, X', hQ, fun u k => st.trans k⟩
theorem goV (X : Stand p l e R s m args below meth c T locs cells slots) (hx : p.tables.exec = Jvm.exec) (hZ : Z.Warmed39 s.vm) {own C : String} {index : Nat} {y z : MethodName} (hown : s.vm.findClass own = some m.cls)
    (w1 : (Jvm.Cond.methodLink own index y).before a0 Z = true) (w2 : (Jvm.Cond.declares y).before a0 Z = true) (hnf : NotFace s y) (w3 : (Jvm.Cond.selects C y z).before a0 Z = true) (w4 : (Jvm.Cond.instanceMethod z).before a0 Z = true) (hy : y.cls ≠ "java/lang/invoke/MethodHandle" ∧ y.cls ≠ "java/lang/invoke/VarHandle")
    {W kc ks : Nat} {as : Array Value} {QQ : Option Value → Heap → List Loc → Prop} (K : Pay l R p e below s args z W as h kc ks QQ) (eT : T.heap = h) {a : Addr} (E : Exa Z h a C) {g : JFrame} (hg : g.method = m) (hsize : g.locals.size = c.maxLocals) {argsL rest : List Value} (has : (.ref a :: argsL).toArray = as)
    (hlen : ∀ sig, parseMethodDescriptor y.desc = some sig → argsL.length = sig.parameters.length) (hstack : g.stack = argsL.reverse ++ .ref a :: rest) (hW : 2 * g.monitorRoom + (rest.map fun v => v.category).sum ≤ W) (hd : decode c.code g.pc = .ok (.invokevirtual index, 3)) (hc : cells + kc ≤ R.cells) (hs : slots + ks ≤ R.slots) :
    ∃ v T' L, Stand p l e R s m args below meth c T' (locs ++ L) (cells + kc) (slots + ks) ∧ QQ v T'.heap L ∧ ∀ u, Steps p.tables e below (T'.setTop { g with pc := g.pc + 3, stack := v.toList ++ rest }) u → Steps p.tables e below (T.setTop g) u := by
  obtain ⟨cB, kB, q1, q2, q3⟩ := isOf hZ eT E
  obtain ⟨v, _, ⟨T', L', k', n'⟩, -, X', ⟨L, hQ, l1, y1, z1⟩, st⟩ := X.virtualBack hx hown (mvT hZ w1) (mvT hZ w2) hnf (mvT hZ w3) (mvT hZ w4) hy K q1 q3 hg hsize (Steps.refl _) hlen hstack hW hd (fun _ _ => ⟨has, eT, hc, hs⟩)
  try dsimp only [Pt.U, Pt.locs, Pt.cells, Pt.slots] at X' l1 y1 z1 st hQ
  subst l1 y1 z1
  exact ⟨v, T', L, X', hQ, fun u k => st.trans k⟩
/-- .. whose named class does not declare it -/
theorem goU (X : Stand p l e R s m args below meth c T locs cells slots) (hx : p.tables.exec = Jvm.exec) (hZ : Z.Warmed39 s.vm) {own C owner : String} {index : Nat} {y z : MethodName} (hown : s.vm.findClass own = some m.cls)
    (w1 : (Jvm.Cond.methodLink own index y).before a0 Z = true) (w5 : (Jvm.Cond.sameMethod y.cls owner y.name y.desc).before a0 Z = true) (w2 : (Jvm.Cond.declares ⟨owner, y.name, y.desc⟩).before a0 Z = true) (w3 : (Jvm.Cond.selects C y z).before a0 Z = true) (w4 : (Jvm.Cond.instanceMethod z).before a0 Z = true) (hy : owner ≠ "java/lang/invoke/MethodHandle" ∧ owner ≠ "java/lang/invoke/VarHandle")
    {W kc ks : Nat} {as : Array Value} {QQ : Option Value → Heap → List Loc → Prop} (K : Pay l R p e below s args z W as h kc ks QQ) (eT : T.heap = h) {a : Addr} (E : Exa Z h a C) {g : JFrame} (hg : g.method = m) (hsize : g.locals.size = c.maxLocals) {argsL rest : List Value} (has : (.ref a :: argsL).toArray = as)
    (hlen : ∀ sig, parseMethodDescriptor y.desc = some sig → argsL.length = sig.parameters.length) (hstack : g.stack = argsL.reverse ++ .ref a :: rest) (hW : 2 * g.monitorRoom + (rest.map fun v => v.category).sum ≤ W) (hd : decode c.code g.pc = .ok (.invokevirtual index, 3)) (hc : cells + kc ≤ R.cells) (hs : slots + ks ≤ R.slots) :
    ∃ v T' L, Stand p l e R s m args below meth c T' (locs ++ L) (cells + kc) (slots + ks) ∧ QQ v T'.heap L ∧ ∀ u, Steps p.tables e below (T'.setTop { g with pc := g.pc + 3, stack := v.toList ++ rest }) u → Steps p.tables e below (T.setTop g) u := by
  obtain ⟨cB, kB, q1, q2, q3⟩ := isOf hZ eT E
  obtain ⟨v, _, ⟨T', L', k', n'⟩, -, X', ⟨L, hQ, l1, y1, z1⟩, st⟩ := X.virtualBackUp hx hown (mvT hZ w1) (mvT hZ w5) (mvT hZ w2) hy (mvT hZ w3) (mvT hZ w4) K q1 q3 hg hsize (Steps.refl _) hlen hstack hW hd (fun _ _ => ⟨has, eT, hc, hs⟩)
  try dsimp only [Pt.U, Pt.locs, Pt.cells, Pt.slots] at X' l1 y1 z1 st hQ
  subst l1 y1 z1
  exact ⟨v, T', L, X', hQ, fun u k => st.trans k⟩
/-- a private method by invokevirtual -/
theorem goP (X : Stand p l e R s m args below meth c T locs cells slots) (hx : p.tables.exec = Jvm.exec) (hZ : Z.Warmed39 s.vm) {own C : String} {index : Nat} {y : MethodName} {bytes : ByteArray} {maxL : Nat} {ret : Option FieldType} (hown : s.vm.findClass own = some m.cls)
    (w1 : (Jvm.Cond.methodLink own index y).before a0 Z = true) (w2 : (Jvm.Cond.instanceMethod y).before a0 Z = true) (w3 : (Jvm.Cond.selects y.cls y y).before a0 Z = true) (w5 : (Jvm.Cond.privateMethod y).before a0 Z = true) (w4 : (Jvm.Cond.code y bytes maxL ret).before a0 Z = true) (hy : y.cls ≠ "java/lang/invoke/MethodHandle" ∧ y.cls ≠ "java/lang/invoke/VarHandle")
    {W kc ks : Nat} {as : Array Value} {QQ : Option Value → Heap → List Loc → Prop} (K : Pay l R p e below s args y W as h kc ks QQ) (eT : T.heap = h) {a : Addr} (E : Exa Z h a C) {g : JFrame} (hg : g.method = m) (hsize : g.locals.size = c.maxLocals) {argsL rest : List Value} (has : (.ref a :: argsL).toArray = as)
    (hlen : ∀ sig, parseMethodDescriptor y.desc = some sig → argsL.length = sig.parameters.length) (hstack : g.stack = argsL.reverse ++ .ref a :: rest) (hW : 2 * g.monitorRoom + (rest.map fun v => v.category).sum ≤ W) (hd : decode c.code g.pc = .ok (.invokevirtual index, 3)) (hc : cells + kc ≤ R.cells) (hs : slots + ks ≤ R.slots) :
    ∃ v T' L, Stand p l e R s m args below meth c T' (locs ++ L) (cells + kc) (slots + ks) ∧ QQ v T'.heap L ∧ ∀ u, Steps p.tables e below (T'.setTop { g with pc := g.pc + 3, stack := v.toList ++ rest }) u → Steps p.tables e below (T.setTop g) u := by
  obtain ⟨cq, q1, q2⟩ := E.cell
  obtain ⟨v, _, ⟨T', L', k', n'⟩, -, X', ⟨L, hQ, l1, y1, z1⟩, st⟩ := X.privateBack hx hown (mvT hZ w1) (mvT hZ w2) (mvT hZ w3) (Cond.privateMethod_at (mvP hZ w5 (args := #[]))) (mvT hZ w4) hy K hg hsize (Steps.refl _) (by rw [eT]; exact q1) q2 hlen hstack hW hd (fun _ _ => ⟨has, eT, hc, hs⟩)
  try dsimp only [Pt.U, Pt.locs, Pt.cells, Pt.slots] at X' l1 y1 z1 st hQ
  subst l1 y1 z1
  exact ⟨v, T', L, X', hQ, fun u k => st.trans k⟩
theorem lremM {g : JFrame} {target : State} (X : Stand p l e R s m args below meth c T locs cells slots) (hx : p.tables.exec = Jvm.exec) (hg : g.method = m) {x y : Int64} {rest : List Value} (hd : decode c.code g.pc = .ok (.lrem, 1)) (hs : g.stack = .long y :: .long x :: rest) (hy : y ≠ 0)
    (hr : Steps p.tables e below (T.setTop { g with pc := g.pc + 1, stack := .long (x % y) :: rest }) target) : Steps p.tables e below (T.setTop g) target :=
  XS.lrem X.here hx hg hd hs hy (by rw [lrem_mod]; exact hr)
theorem own_cat {v : Value} (h : v.isRef = true) : v.category = 1 := by cases v <;> first | rfl | (simp [Value.isRef] at h; done)
theorem own_narrow_ref {t : FieldType} {v : Value} (h : v.isRef = true) : narrow t v = v := by cases v <;> first | (simp [Value.isRef] at h; done) | (cases t <;> rfl)
theorem own_fits_ref {C : String} {v : Value} (h : v.isRef = true) : fits (.object C) v = true := by cases v <;> simp_all [Value.isRef, fits]
/-- what the case's words say of a static -/
theorem sta_obj {C n d K : String} (hi : (Jvm.Cond.initializedFor C n d).before args s = true ∨ ((Jvm.Cond.initialized C).before args s = true ∧ (Jvm.Cond.laysStatic C n d).before args s = true)) (hx : (Jvm.Cond.exactly (.static C n d) K).value args s none s [] = some true) :
    ∃ a, Sta s s.heap C n d (.ref a) ∧ Exa s s.heap a K ∧ (Term.static C n d).eval args s none [] s = some (.ref a) := by
  obtain ⟨a, e⟩ := exa_v hx
  exact ⟨a, Sta.start e hi, Exa.start e hx, e⟩
theorem fld_l {t : Term} {a : Addr} {C f d : String} {v : Int64} (ev : t.eval args s none [] s = some (.ref a)) (h : (Jvm.Cond.eq (.field t C f d) (.long v)).value args s none s [] = some true) : Fld s s.heap a C f d (.long v) :=
  Fld.start (by rw [← fld_at ev]; exact eqv_l (long_at v) h)
theorem fld_i {t : Term} {a : Addr} {C f d : String} {v : Int32} (ev : t.eval args s none [] s = some (.ref a)) (h : (Jvm.Cond.eq (.field t C f d) (.int v)).value args s none s [] = some true) : Fld s s.heap a C f d (.int v) :=
  Fld.start (by rw [← fld_at ev]; exact eqv_i (Term.int_eval v) h)
theorem b01_ne {P : Prop} [Decidable P] (q : P) : ¬ (if P then (1 : Int32) else 0) = 0 := by rw [if_pos q]; decide
theorem b01_eq {P : Prop} [Decidable P] (q : ¬ P) : (if P then (1 : Int32) else 0) = 0 := if_neg q
theorem b01_nar {P : Prop} [Decidable P] : narrow .boolean (.int (if P then (1 : Int32) else 0)) = .int (if P then (1 : Int32) else 0) := by split <;> rfl
end Base
end Jvm.Own
namespace Jvm.Pilot.@@N@@
open Jvm Jvm.ClassFile Sem Op Lib Jvm.Free Jvm.Stand Jvm.LawKit Jvm.RoadKit Bundle Jvm.Own Jvm.Pilot.@@N@@.Jvm.D
abbrev vI (x : Int32) : Slot := .val (.int x)
abbrev vJ (x : Int64) : Slot := .val (.long x)
abbrev vR (x : Addr) : Slot := .val (.ref x)
abbrev vU : Slot := .unset
abbrev Y_0 : Jvm.MethodName := ({ cls := "java/lang/StringUTF16", name := "newBytesLength", desc := "(I)I" } : Jvm.MethodName)
abbrev Y_1 : Jvm.MethodName := ({ cls := "java/lang/StringUTF16", name := "newBytesFor", desc := "(I)[B" } : Jvm.MethodName)
abbrev Y_2 : Jvm.MethodName := ({ cls := "java/lang/StringUTF16", name := "putChar", desc := "([BII)V" } : Jvm.MethodName)
abbrev Y_3 : Jvm.MethodName := ({ cls := "java/lang/StringUTF16", name := "compress", desc := "([CI[BII)I" } : Jvm.MethodName)
abbrev Y_4 : Jvm.MethodName := ({ cls := "java/lang/StringUTF16", name := "toBytes", desc := "([CII)[B" } : Jvm.MethodName)
abbrev Y_5 : Jvm.MethodName := ({ cls := "java/lang/StringUTF16", name := "getChar", desc := "([BI)C" } : Jvm.MethodName)
abbrev Y_6 : Jvm.MethodName := ({ cls := "java/lang/StringUTF16", name := "compress", desc := "([CII)[B" } : Jvm.MethodName)
abbrev Y_7 : Jvm.MethodName := ({ cls := "java/lang/StringUTF16", name := "coderFromArrayLen", desc := "([BI)B" } : Jvm.MethodName)
abbrev Y_8 : Jvm.MethodName := ({ cls := "java/lang/String", name := "<init>", desc := "([CIILjava/lang/Void;)V" } : Jvm.MethodName)
abbrev Y_9 : Jvm.MethodName := ({ cls := "jdk/internal/util/Preconditions", name := "checkIndex", desc := "(IILjava/util/function/BiFunction;)I" } : Jvm.MethodName)
abbrev Y_10 : Jvm.MethodName := ({ cls := "java/lang/StringUTF16", name := "length", desc := "([B)I" } : Jvm.MethodName)
abbrev Y_11 : Jvm.MethodName := ({ cls := "java/lang/String", name := "checkIndex", desc := "(II)V" } : Jvm.MethodName)
abbrev Y_12 : Jvm.MethodName := ({ cls := "java/lang/StringUTF16", name := "checkIndex", desc := "(I[B)V" } : Jvm.MethodName)
abbrev Y_13 : Jvm.MethodName := ({ cls := "java/lang/String", name := "isLatin1", desc := "()Z" } : Jvm.MethodName)
abbrev Y_14 : Jvm.MethodName := ({ cls := "java/lang/StringLatin1", name := "charAt", desc := "([BI)C" } : Jvm.MethodName)
abbrev Y_15 : Jvm.MethodName := ({ cls := "java/lang/String", name := "charAt", desc := "(I)C" } : Jvm.MethodName)
abbrev Y_16 : Jvm.MethodName := ({ cls := "java/lang/StringUTF16", name := "charAt", desc := "([BI)C" } : Jvm.MethodName)
abbrev Y_17 : Jvm.MethodName := ({ cls := "com/example/sigyn/sigyn/DigitsReadPinLaw", name := "digitValue", desc := "(C)I" } : Jvm.MethodName)
abbrev Y_18 : Jvm.MethodName := ({ cls := "com/example/sigyn/sigyn/DigitsReadPinLaw", name := "pow10", desc := "(I)J" } : Jvm.MethodName)
abbrev Y_19 : Jvm.MethodName := ({ cls := "com/example/sigyn/sigyn/DigitsReadPinLaw", name := "pick", desc := "(I)C" } : Jvm.MethodName)
abbrev Y_20 : Jvm.MethodName := ({ cls := "java/lang/String", name := "<init>", desc := "([C)V" } : Jvm.MethodName)
abbrev Y_21 : Jvm.MethodName := ({ cls := "com/example/sigyn/sigyn/Digits", name := "read", desc := "(Ljava/lang/String;II)J" } : Jvm.MethodName)
abbrev Y_22 : Jvm.MethodName := ({ cls := "com/example/sigyn/sigyn/DigitsReadPinLaw", name := "term", desc := "(CIII)J" } : Jvm.MethodName)
theorem wd_0 {a0 : Array Value} {Z : State} (hw : ∀ d ∈ tables_1, d.before a0 Z = true) : (Jvm.Cond.arrayClass Jvm.ClassFile.FieldType.char).before a0 Z = true := hw _ (List.mem_of_getElem? (i := 0) rfl)
theorem wd_1 {a0 : Array Value} {Z : State} (hw : ∀ d ∈ tables_1, d.before a0 Z = true) : (Jvm.Cond.methodLink "com/example/sigyn/sigyn/DigitsReadPinLaw" (30 : Nat) ({ cls := "com/example/sigyn/sigyn/DigitsReadPinLaw", name := "pick", desc := "(I)C" } : Jvm.MethodName)).before a0 Z = true := hw _ (List.mem_of_getElem? (i := 1) rfl)
theorem wd_2 {a0 : Array Value} {Z : State} (hw : ∀ d ∈ tables_1, d.before a0 Z = true) : (Jvm.Cond.static ({ cls := "com/example/sigyn/sigyn/DigitsReadPinLaw", name := "pick", desc := "(I)C" } : Jvm.MethodName)).before a0 Z = true := hw _ (List.mem_of_getElem? (i := 2) rfl)
theorem wd_3 {a0 : Array Value} {Z : State} (hw : ∀ d ∈ tables_1, d.before a0 Z = true) : (Jvm.Cond.initialized "com/example/sigyn/sigyn/DigitsReadPinLaw").before a0 Z = true := hw _ (List.mem_of_getElem? (i := 3) rfl)
theorem wd_4 {a0 : Array Value} {Z : State} (hw : ∀ d ∈ tables_1, d.before a0 Z = true) : (Jvm.Cond.code ({ cls := "com/example/sigyn/sigyn/DigitsReadPinLaw", name := "pick", desc := "(I)C" } : Jvm.MethodName) method_2_code (1 : Nat) (Option.some Jvm.ClassFile.FieldType.char)).before a0 Z = true := hw _ (List.mem_of_getElem? (i := 4) rfl)
theorem wd_5 {a0 : Array Value} {Z : State} (hw : ∀ d ∈ tables_1, d.before a0 Z = true) : (Jvm.Cond.constant "com/example/sigyn/sigyn/DigitsReadPinLaw" (7 : Nat) (65535 : Int32)).before a0 Z = true := hw _ (List.mem_of_getElem? (i := 5) rfl)
theorem wd_6 {a0 : Array Value} {Z : State} (hw : ∀ d ∈ tables_1, d.before a0 Z = true) : (Jvm.Cond.constant "com/example/sigyn/sigyn/DigitsReadPinLaw" (34 : Nat) (2147483647 : Int32)).before a0 Z = true := hw _ (List.mem_of_getElem? (i := 6) rfl)
theorem wd_7 {a0 : Array Value} {Z : State} (hw : ∀ d ∈ tables_1, d.before a0 Z = true) : (Jvm.Cond.classLink "com/example/sigyn/sigyn/DigitsReadPinLaw" (35 : Nat) "java/lang/String").before a0 Z = true := hw _ (List.mem_of_getElem? (i := 7) rfl)
theorem wd_8 {a0 : Array Value} {Z : State} (hw : ∀ d ∈ tables_1, d.before a0 Z = true) : (Jvm.Cond.instantiable "java/lang/String" (4 : Nat)).before a0 Z = true := hw _ (List.mem_of_getElem? (i := 8) rfl)
theorem wd_9 {a0 : Array Value} {Z : State} (hw : ∀ d ∈ tables_1, d.before a0 Z = true) : (Jvm.Cond.initialized "java/lang/String").before a0 Z = true := hw _ (List.mem_of_getElem? (i := 9) rfl)
theorem wd_10 {a0 : Array Value} {Z : State} (hw : ∀ d ∈ tables_1, d.before a0 Z = true) : (Jvm.Cond.methodLink "com/example/sigyn/sigyn/DigitsReadPinLaw" (37 : Nat) ({ cls := "java/lang/String", name := "<init>", desc := "([C)V" } : Jvm.MethodName)).before a0 Z = true := hw _ (List.mem_of_getElem? (i := 10) rfl)
theorem wd_11 {a0 : Array Value} {Z : State} (hw : ∀ d ∈ tables_1, d.before a0 Z = true) : (Jvm.Cond.instanceMethod ({ cls := "java/lang/String", name := "<init>", desc := "([C)V" } : Jvm.MethodName)).before a0 Z = true := hw _ (List.mem_of_getElem? (i := 11) rfl)
theorem wd_12 {a0 : Array Value} {Z : State} (hw : ∀ d ∈ tables_1, d.before a0 Z = true) : (Jvm.Cond.code ({ cls := "java/lang/String", name := "<init>", desc := "([C)V" } : Jvm.MethodName) jdk_42_method_3_code (2 : Nat) (Option.none : Option Jvm.ClassFile.FieldType)).before a0 Z = true := hw _ (List.mem_of_getElem? (i := 12) rfl)
theorem wd_13 {a0 : Array Value} {Z : State} (hw : ∀ d ∈ tables_1, d.before a0 Z = true) : (Jvm.Cond.methodLink "java/lang/String" (27 : Nat) ({ cls := "java/lang/String", name := "<init>", desc := "([CIILjava/lang/Void;)V" } : Jvm.MethodName)).before a0 Z = true := hw _ (List.mem_of_getElem? (i := 13) rfl)
theorem wd_14 {a0 : Array Value} {Z : State} (hw : ∀ d ∈ tables_1, d.before a0 Z = true) : (Jvm.Cond.instanceMethod ({ cls := "java/lang/String", name := "<init>", desc := "([CIILjava/lang/Void;)V" } : Jvm.MethodName)).before a0 Z = true := hw _ (List.mem_of_getElem? (i := 14) rfl)
theorem wd_16 {a0 : Array Value} {Z : State} (hw : ∀ d ∈ tables_1, d.before a0 Z = true) : (Jvm.Cond.code ({ cls := "java/lang/String", name := "<init>", desc := "([CIILjava/lang/Void;)V" } : Jvm.MethodName) jdk_42_method_149_code (6 : Nat) (Option.none : Option Jvm.ClassFile.FieldType)).before a0 Z = true := hw _ (List.mem_of_getElem? (i := 16) rfl)
theorem wd_17 {a0 : Array Value} {Z : State} (hw : ∀ d ∈ tables_1, d.before a0 Z = true) : (Jvm.Cond.methodLink "java/lang/String" (1 : Nat) ({ cls := "java/lang/Object", name := "<init>", desc := "()V" } : Jvm.MethodName)).before a0 Z = true := hw _ (List.mem_of_getElem? (i := 17) rfl)
theorem wd_18 {a0 : Array Value} {Z : State} (hw : ∀ d ∈ tables_1, d.before a0 Z = true) : (Jvm.Cond.instanceMethod ({ cls := "java/lang/Object", name := "<init>", desc := "()V" } : Jvm.MethodName)).before a0 Z = true := hw _ (List.mem_of_getElem? (i := 18) rfl)
theorem wd_19 {a0 : Array Value} {Z : State} (hw : ∀ d ∈ tables_1, d.before a0 Z = true) : (Jvm.Cond.code ({ cls := "java/lang/Object", name := "<init>", desc := "()V" } : Jvm.MethodName) object_method_1_code (1 : Nat) (Option.none : Option Jvm.ClassFile.FieldType)).before a0 Z = true := hw _ (List.mem_of_getElem? (i := 19) rfl)
theorem wd_20 {a0 : Array Value} {Z : State} (hw : ∀ d ∈ tables_1, d.before a0 Z = true) : (Jvm.Cond.fieldLink "java/lang/String" (38 : Nat) "java/lang/String" "COMPACT_STRINGS" "Z").before a0 Z = true := hw _ (List.mem_of_getElem? (i := 20) rfl)
theorem wd_21 {a0 : Array Value} {Z : State} (hw : ∀ d ∈ tables_1, d.before a0 Z = true) : (Jvm.Cond.methodLink "java/lang/String" (177 : Nat) ({ cls := "java/lang/StringUTF16", name := "compress", desc := "([CII)[B" } : Jvm.MethodName)).before a0 Z = true := hw _ (List.mem_of_getElem? (i := 21) rfl)
theorem wd_22 {a0 : Array Value} {Z : State} (hw : ∀ d ∈ tables_1, d.before a0 Z = true) : (Jvm.Cond.static ({ cls := "java/lang/StringUTF16", name := "compress", desc := "([CII)[B" } : Jvm.MethodName)).before a0 Z = true := hw _ (List.mem_of_getElem? (i := 22) rfl)
theorem wd_23 {a0 : Array Value} {Z : State} (hw : ∀ d ∈ tables_1, d.before a0 Z = true) : (Jvm.Cond.initialized "java/lang/StringUTF16").before a0 Z = true := hw _ (List.mem_of_getElem? (i := 23) rfl)
theorem wd_24 {a0 : Array Value} {Z : State} (hw : ∀ d ∈ tables_1, d.before a0 Z = true) : (Jvm.Cond.code ({ cls := "java/lang/StringUTF16", name := "compress", desc := "([CII)[B" } : Jvm.MethodName) jdk_52_method_16_code (6 : Nat) (Option.some (Jvm.ClassFile.FieldType.array Jvm.ClassFile.FieldType.byte))).before a0 Z = true := hw _ (List.mem_of_getElem? (i := 24) rfl)
theorem wd_25 {a0 : Array Value} {Z : State} (hw : ∀ d ∈ tables_1, d.before a0 Z = true) : (Jvm.Cond.arrayClass Jvm.ClassFile.FieldType.byte).before a0 Z = true := hw _ (List.mem_of_getElem? (i := 25) rfl)
theorem wd_26 {a0 : Array Value} {Z : State} (hw : ∀ d ∈ tables_1, d.before a0 Z = true) : (Jvm.Cond.methodLink "java/lang/StringUTF16" (115 : Nat) ({ cls := "java/lang/StringUTF16", name := "compress", desc := "([CI[BII)I" } : Jvm.MethodName)).before a0 Z = true := hw _ (List.mem_of_getElem? (i := 26) rfl)
theorem wd_27 {a0 : Array Value} {Z : State} (hw : ∀ d ∈ tables_1, d.before a0 Z = true) : (Jvm.Cond.static ({ cls := "java/lang/StringUTF16", name := "compress", desc := "([CI[BII)I" } : Jvm.MethodName)).before a0 Z = true := hw _ (List.mem_of_getElem? (i := 27) rfl)
theorem wd_28 {a0 : Array Value} {Z : State} (hw : ∀ d ∈ tables_1, d.before a0 Z = true) : (Jvm.Cond.code ({ cls := "java/lang/StringUTF16", name := "compress", desc := "([CI[BII)I" } : Jvm.MethodName) jdk_52_method_21_code (7 : Nat) (Option.some Jvm.ClassFile.FieldType.int)).before a0 Z = true := hw _ (List.mem_of_getElem? (i := 28) rfl)
theorem wd_29 {a0 : Array Value} {Z : State} (hw : ∀ d ∈ tables_1, d.before a0 Z = true) : (Jvm.Cond.methodLink "java/lang/StringUTF16" (119 : Nat) ({ cls := "java/lang/StringUTF16", name := "toBytes", desc := "([CII)[B" } : Jvm.MethodName)).before a0 Z = true := hw _ (List.mem_of_getElem? (i := 29) rfl)
theorem wd_30 {a0 : Array Value} {Z : State} (hw : ∀ d ∈ tables_1, d.before a0 Z = true) : (Jvm.Cond.static ({ cls := "java/lang/StringUTF16", name := "toBytes", desc := "([CII)[B" } : Jvm.MethodName)).before a0 Z = true := hw _ (List.mem_of_getElem? (i := 30) rfl)
theorem wd_31 {a0 : Array Value} {Z : State} (hw : ∀ d ∈ tables_1, d.before a0 Z = true) : (Jvm.Cond.code ({ cls := "java/lang/StringUTF16", name := "toBytes", desc := "([CII)[B" } : Jvm.MethodName) jdk_52_method_14_code (5 : Nat) (Option.some (Jvm.ClassFile.FieldType.array Jvm.ClassFile.FieldType.byte))).before a0 Z = true := hw _ (List.mem_of_getElem? (i := 31) rfl)
theorem wd_32 {a0 : Array Value} {Z : State} (hw : ∀ d ∈ tables_1, d.before a0 Z = true) : (Jvm.Cond.methodLink "java/lang/StringUTF16" (107 : Nat) ({ cls := "java/lang/StringUTF16", name := "newBytesFor", desc := "(I)[B" } : Jvm.MethodName)).before a0 Z = true := hw _ (List.mem_of_getElem? (i := 32) rfl)
theorem wd_33 {a0 : Array Value} {Z : State} (hw : ∀ d ∈ tables_1, d.before a0 Z = true) : (Jvm.Cond.static ({ cls := "java/lang/StringUTF16", name := "newBytesFor", desc := "(I)[B" } : Jvm.MethodName)).before a0 Z = true := hw _ (List.mem_of_getElem? (i := 33) rfl)
theorem wd_34 {a0 : Array Value} {Z : State} (hw : ∀ d ∈ tables_1, d.before a0 Z = true) : (Jvm.Cond.code ({ cls := "java/lang/StringUTF16", name := "newBytesFor", desc := "(I)[B" } : Jvm.MethodName) jdk_52_method_2_code (1 : Nat) (Option.some (Jvm.ClassFile.FieldType.array Jvm.ClassFile.FieldType.byte))).before a0 Z = true := hw _ (List.mem_of_getElem? (i := 34) rfl)
theorem wd_35 {a0 : Array Value} {Z : State} (hw : ∀ d ∈ tables_1, d.before a0 Z = true) : (Jvm.Cond.methodLink "java/lang/StringUTF16" (11 : Nat) ({ cls := "java/lang/StringUTF16", name := "newBytesLength", desc := "(I)I" } : Jvm.MethodName)).before a0 Z = true := hw _ (List.mem_of_getElem? (i := 35) rfl)
theorem wd_36 {a0 : Array Value} {Z : State} (hw : ∀ d ∈ tables_1, d.before a0 Z = true) : (Jvm.Cond.static ({ cls := "java/lang/StringUTF16", name := "newBytesLength", desc := "(I)I" } : Jvm.MethodName)).before a0 Z = true := hw _ (List.mem_of_getElem? (i := 36) rfl)
theorem wd_37 {a0 : Array Value} {Z : State} (hw : ∀ d ∈ tables_1, d.before a0 Z = true) : (Jvm.Cond.code ({ cls := "java/lang/StringUTF16", name := "newBytesLength", desc := "(I)I" } : Jvm.MethodName) jdk_52_method_3_code (1 : Nat) (Option.some Jvm.ClassFile.FieldType.int)).before a0 Z = true := hw _ (List.mem_of_getElem? (i := 37) rfl)
theorem wd_38 {a0 : Array Value} {Z : State} (hw : ∀ d ∈ tables_1, d.before a0 Z = true) : (Jvm.Cond.constant "java/lang/StringUTF16" (20 : Nat) (1073741823 : Int32)).before a0 Z = true := hw _ (List.mem_of_getElem? (i := 38) rfl)
theorem wd_39 {a0 : Array Value} {Z : State} (hw : ∀ d ∈ tables_1, d.before a0 Z = true) : (Jvm.Cond.methodLink "java/lang/StringUTF16" (111 : Nat) ({ cls := "java/lang/StringUTF16", name := "putChar", desc := "([BII)V" } : Jvm.MethodName)).before a0 Z = true := hw _ (List.mem_of_getElem? (i := 39) rfl)
theorem wd_40 {a0 : Array Value} {Z : State} (hw : ∀ d ∈ tables_1, d.before a0 Z = true) : (Jvm.Cond.static ({ cls := "java/lang/StringUTF16", name := "putChar", desc := "([BII)V" } : Jvm.MethodName)).before a0 Z = true := hw _ (List.mem_of_getElem? (i := 40) rfl)
theorem wd_41 {a0 : Array Value} {Z : State} (hw : ∀ d ∈ tables_1, d.before a0 Z = true) : (Jvm.Cond.code ({ cls := "java/lang/StringUTF16", name := "putChar", desc := "([BII)V" } : Jvm.MethodName) jdk_52_method_4_code (3 : Nat) (Option.none : Option Jvm.ClassFile.FieldType)).before a0 Z = true := hw _ (List.mem_of_getElem? (i := 41) rfl)
theorem wd_42 {a0 : Array Value} {Z : State} (hw : ∀ d ∈ tables_1, d.before a0 Z = true) : (Jvm.Cond.fieldLink "java/lang/StringUTF16" (44 : Nat) "java/lang/StringUTF16" "$assertionsDisabled" "Z").before a0 Z = true := hw _ (List.mem_of_getElem? (i := 42) rfl)
theorem wd_43 {a0 : Array Value} {Z : State} (hw : ∀ d ∈ tables_1, d.before a0 Z = true) : (Jvm.Cond.fieldLink "java/lang/StringUTF16" (59 : Nat) "java/lang/StringUTF16" "HI_BYTE_SHIFT" "I").before a0 Z = true := hw _ (List.mem_of_getElem? (i := 43) rfl)
theorem wd_44 {a0 : Array Value} {Z : State} (hw : ∀ d ∈ tables_1, d.before a0 Z = true) : (Jvm.Cond.fieldLink "java/lang/StringUTF16" (63 : Nat) "java/lang/StringUTF16" "LO_BYTE_SHIFT" "I").before a0 Z = true := hw _ (List.mem_of_getElem? (i := 44) rfl)
theorem wd_45 {a0 : Array Value} {Z : State} (hw : ∀ d ∈ tables_1, d.before a0 Z = true) : (Jvm.Cond.methodLink "java/lang/StringUTF16" (71 : Nat) ({ cls := "java/lang/StringUTF16", name := "getChar", desc := "([BI)C" } : Jvm.MethodName)).before a0 Z = true := hw _ (List.mem_of_getElem? (i := 45) rfl)
theorem wd_46 {a0 : Array Value} {Z : State} (hw : ∀ d ∈ tables_1, d.before a0 Z = true) : (Jvm.Cond.static ({ cls := "java/lang/StringUTF16", name := "getChar", desc := "([BI)C" } : Jvm.MethodName)).before a0 Z = true := hw _ (List.mem_of_getElem? (i := 46) rfl)
theorem wd_47 {a0 : Array Value} {Z : State} (hw : ∀ d ∈ tables_1, d.before a0 Z = true) : (Jvm.Cond.code ({ cls := "java/lang/StringUTF16", name := "getChar", desc := "([BI)C" } : Jvm.MethodName) jdk_52_method_5_code (2 : Nat) (Option.some Jvm.ClassFile.FieldType.char)).before a0 Z = true := hw _ (List.mem_of_getElem? (i := 47) rfl)
theorem wd_48 {a0 : Array Value} {Z : State} (hw : ∀ d ∈ tables_1, d.before a0 Z = true) : (Jvm.Cond.methodLink "java/lang/String" (47 : Nat) ({ cls := "java/lang/StringUTF16", name := "coderFromArrayLen", desc := "([BI)B" } : Jvm.MethodName)).before a0 Z = true := hw _ (List.mem_of_getElem? (i := 48) rfl)
theorem wd_49 {a0 : Array Value} {Z : State} (hw : ∀ d ∈ tables_1, d.before a0 Z = true) : (Jvm.Cond.static ({ cls := "java/lang/StringUTF16", name := "coderFromArrayLen", desc := "([BI)B" } : Jvm.MethodName)).before a0 Z = true := hw _ (List.mem_of_getElem? (i := 49) rfl)
theorem wd_50 {a0 : Array Value} {Z : State} (hw : ∀ d ∈ tables_1, d.before a0 Z = true) : (Jvm.Cond.code ({ cls := "java/lang/StringUTF16", name := "coderFromArrayLen", desc := "([BI)B" } : Jvm.MethodName) jdk_52_method_15_code (2 : Nat) (Option.some Jvm.ClassFile.FieldType.byte)).before a0 Z = true := hw _ (List.mem_of_getElem? (i := 50) rfl)
theorem wd_51 {a0 : Array Value} {Z : State} (hw : ∀ d ∈ tables_1, d.before a0 Z = true) : (Jvm.Cond.fieldLink "java/lang/String" (15 : Nat) "java/lang/String" "coder" "B").before a0 Z = true := hw _ (List.mem_of_getElem? (i := 51) rfl)
theorem wd_52 {a0 : Array Value} {Z : State} (hw : ∀ d ∈ tables_1, d.before a0 Z = true) : (Jvm.Cond.laysFinal "java/lang/String" "java/lang/String" "coder" "B").before a0 Z = true := hw _ (List.mem_of_getElem? (i := 52) rfl)
theorem wd_53 {a0 : Array Value} {Z : State} (hw : ∀ d ∈ tables_1, d.before a0 Z = true) : (Jvm.Cond.fieldLink "java/lang/String" (9 : Nat) "java/lang/String" "value" "[B").before a0 Z = true := hw _ (List.mem_of_getElem? (i := 53) rfl)
theorem wd_54 {a0 : Array Value} {Z : State} (hw : ∀ d ∈ tables_1, d.before a0 Z = true) : (Jvm.Cond.laysFinal "java/lang/String" "java/lang/String" "value" "[B").before a0 Z = true := hw _ (List.mem_of_getElem? (i := 54) rfl)
theorem wd_55 {a0 : Array Value} {Z : State} (hw : ∀ d ∈ tables_1, d.before a0 Z = true) : (Jvm.Cond.methodLink "com/example/sigyn/sigyn/DigitsReadPinLaw" (40 : Nat) ({ cls := "com/example/sigyn/sigyn/Digits", name := "read", desc := "(Ljava/lang/String;II)J" } : Jvm.MethodName)).before a0 Z = true := hw _ (List.mem_of_getElem? (i := 55) rfl)
theorem wd_56 {a0 : Array Value} {Z : State} (hw : ∀ d ∈ tables_1, d.before a0 Z = true) : (Jvm.Cond.static ({ cls := "com/example/sigyn/sigyn/Digits", name := "read", desc := "(Ljava/lang/String;II)J" } : Jvm.MethodName)).before a0 Z = true := hw _ (List.mem_of_getElem? (i := 56) rfl)
theorem wd_57 {a0 : Array Value} {Z : State} (hw : ∀ d ∈ tables_1, d.before a0 Z = true) : (Jvm.Cond.initialized "com/example/sigyn/sigyn/Digits").before a0 Z = true := hw _ (List.mem_of_getElem? (i := 57) rfl)
theorem wd_58 {a0 : Array Value} {Z : State} (hw : ∀ d ∈ tables_1, d.before a0 Z = true) : (Jvm.Cond.code ({ cls := "com/example/sigyn/sigyn/Digits", name := "read", desc := "(Ljava/lang/String;II)J" } : Jvm.MethodName) prog_1_method_2_code (7 : Nat) (Option.some Jvm.ClassFile.FieldType.long)).before a0 Z = true := hw _ (List.mem_of_getElem? (i := 58) rfl)
theorem wd_59 {a0 : Array Value} {Z : State} (hw : ∀ d ∈ tables_1, d.before a0 Z = true) : (Jvm.Cond.methodLink "com/example/sigyn/sigyn/Digits" (7 : Nat) ({ cls := "java/lang/String", name := "charAt", desc := "(I)C" } : Jvm.MethodName)).before a0 Z = true := hw _ (List.mem_of_getElem? (i := 59) rfl)
theorem wd_60 {a0 : Array Value} {Z : State} (hw : ∀ d ∈ tables_1, d.before a0 Z = true) : (Jvm.Cond.declares ({ cls := "java/lang/String", name := "charAt", desc := "(I)C" } : Jvm.MethodName)).before a0 Z = true := hw _ (List.mem_of_getElem? (i := 60) rfl)
theorem wd_61 {a0 : Array Value} {Z : State} (hw : ∀ d ∈ tables_1, d.before a0 Z = true) : (Jvm.Cond.instanceMethod ({ cls := "java/lang/String", name := "charAt", desc := "(I)C" } : Jvm.MethodName)).before a0 Z = true := hw _ (List.mem_of_getElem? (i := 61) rfl)
theorem wd_62 {a0 : Array Value} {Z : State} (hw : ∀ d ∈ tables_1, d.before a0 Z = true) : (Jvm.Cond.selects "java/lang/String" ({ cls := "java/lang/String", name := "charAt", desc := "(I)C" } : Jvm.MethodName) ({ cls := "java/lang/String", name := "charAt", desc := "(I)C" } : Jvm.MethodName)).before a0 Z = true := hw _ (List.mem_of_getElem? (i := 62) rfl)
theorem wd_63 {a0 : Array Value} {Z : State} (hw : ∀ d ∈ tables_1, d.before a0 Z = true) : (Jvm.Cond.code ({ cls := "java/lang/String", name := "charAt", desc := "(I)C" } : Jvm.MethodName) jdk_42_method_56_code (2 : Nat) (Option.some Jvm.ClassFile.FieldType.char)).before a0 Z = true := hw _ (List.mem_of_getElem? (i := 63) rfl)
theorem wd_64 {a0 : Array Value} {Z : State} (hw : ∀ d ∈ tables_1, d.before a0 Z = true) : (Jvm.Cond.methodLink "java/lang/String" (492 : Nat) ({ cls := "java/lang/String", name := "isLatin1", desc := "()Z" } : Jvm.MethodName)).before a0 Z = true := hw _ (List.mem_of_getElem? (i := 64) rfl)
theorem wd_65 {a0 : Array Value} {Z : State} (hw : ∀ d ∈ tables_1, d.before a0 Z = true) : (Jvm.Cond.declares ({ cls := "java/lang/String", name := "isLatin1", desc := "()Z" } : Jvm.MethodName)).before a0 Z = true := hw _ (List.mem_of_getElem? (i := 65) rfl)
theorem wd_66 {a0 : Array Value} {Z : State} (hw : ∀ d ∈ tables_1, d.before a0 Z = true) : (Jvm.Cond.instanceMethod ({ cls := "java/lang/String", name := "isLatin1", desc := "()Z" } : Jvm.MethodName)).before a0 Z = true := hw _ (List.mem_of_getElem? (i := 66) rfl)
theorem wd_67 {a0 : Array Value} {Z : State} (hw : ∀ d ∈ tables_1, d.before a0 Z = true) : (Jvm.Cond.selects "java/lang/String" ({ cls := "java/lang/String", name := "isLatin1", desc := "()Z" } : Jvm.MethodName) ({ cls := "java/lang/String", name := "isLatin1", desc := "()Z" } : Jvm.MethodName)).before a0 Z = true := hw _ (List.mem_of_getElem? (i := 67) rfl)
theorem wd_68 {a0 : Array Value} {Z : State} (hw : ∀ d ∈ tables_1, d.before a0 Z = true) : (Jvm.Cond.code ({ cls := "java/lang/String", name := "isLatin1", desc := "()Z" } : Jvm.MethodName) jdk_42_method_154_code (1 : Nat) (Option.some Jvm.ClassFile.FieldType.boolean)).before a0 Z = true := hw _ (List.mem_of_getElem? (i := 68) rfl)
theorem wd_69 {a0 : Array Value} {Z : State} (hw : ∀ d ∈ tables_1, d.before a0 Z = true) : (Jvm.Cond.methodLink "java/lang/String" (498 : Nat) ({ cls := "java/lang/StringUTF16", name := "charAt", desc := "([BI)C" } : Jvm.MethodName)).before a0 Z = true := hw _ (List.mem_of_getElem? (i := 69) rfl)
theorem wd_70 {a0 : Array Value} {Z : State} (hw : ∀ d ∈ tables_1, d.before a0 Z = true) : (Jvm.Cond.static ({ cls := "java/lang/StringUTF16", name := "charAt", desc := "([BI)C" } : Jvm.MethodName)).before a0 Z = true := hw _ (List.mem_of_getElem? (i := 70) rfl)
theorem wd_71 {a0 : Array Value} {Z : State} (hw : ∀ d ∈ tables_1, d.before a0 Z = true) : (Jvm.Cond.code ({ cls := "java/lang/StringUTF16", name := "charAt", desc := "([BI)C" } : Jvm.MethodName) jdk_52_method_83_code (2 : Nat) (Option.some Jvm.ClassFile.FieldType.char)).before a0 Z = true := hw _ (List.mem_of_getElem? (i := 71) rfl)
theorem wd_72 {a0 : Array Value} {Z : State} (hw : ∀ d ∈ tables_1, d.before a0 Z = true) : (Jvm.Cond.methodLink "java/lang/StringUTF16" (67 : Nat) ({ cls := "java/lang/StringUTF16", name := "checkIndex", desc := "(I[B)V" } : Jvm.MethodName)).before a0 Z = true := hw _ (List.mem_of_getElem? (i := 72) rfl)
theorem wd_73 {a0 : Array Value} {Z : State} (hw : ∀ d ∈ tables_1, d.before a0 Z = true) : (Jvm.Cond.static ({ cls := "java/lang/StringUTF16", name := "checkIndex", desc := "(I[B)V" } : Jvm.MethodName)).before a0 Z = true := hw _ (List.mem_of_getElem? (i := 73) rfl)
theorem wd_74 {a0 : Array Value} {Z : State} (hw : ∀ d ∈ tables_1, d.before a0 Z = true) : (Jvm.Cond.code ({ cls := "java/lang/StringUTF16", name := "checkIndex", desc := "(I[B)V" } : Jvm.MethodName) jdk_52_method_91_code (2 : Nat) (Option.none : Option Jvm.ClassFile.FieldType)).before a0 Z = true := hw _ (List.mem_of_getElem? (i := 74) rfl)
theorem wd_75 {a0 : Array Value} {Z : State} (hw : ∀ d ∈ tables_1, d.before a0 Z = true) : (Jvm.Cond.methodLink "java/lang/StringUTF16" (48 : Nat) ({ cls := "java/lang/StringUTF16", name := "length", desc := "([B)I" } : Jvm.MethodName)).before a0 Z = true := hw _ (List.mem_of_getElem? (i := 75) rfl)
theorem wd_76 {a0 : Array Value} {Z : State} (hw : ∀ d ∈ tables_1, d.before a0 Z = true) : (Jvm.Cond.static ({ cls := "java/lang/StringUTF16", name := "length", desc := "([B)I" } : Jvm.MethodName)).before a0 Z = true := hw _ (List.mem_of_getElem? (i := 76) rfl)
theorem wd_77 {a0 : Array Value} {Z : State} (hw : ∀ d ∈ tables_1, d.before a0 Z = true) : (Jvm.Cond.code ({ cls := "java/lang/StringUTF16", name := "length", desc := "([B)I" } : Jvm.MethodName) jdk_52_method_6_code (1 : Nat) (Option.some Jvm.ClassFile.FieldType.int)).before a0 Z = true := hw _ (List.mem_of_getElem? (i := 77) rfl)
theorem wd_78 {a0 : Array Value} {Z : State} (hw : ∀ d ∈ tables_1, d.before a0 Z = true) : (Jvm.Cond.methodLink "java/lang/StringUTF16" (414 : Nat) ({ cls := "java/lang/String", name := "checkIndex", desc := "(II)V" } : Jvm.MethodName)).before a0 Z = true := hw _ (List.mem_of_getElem? (i := 78) rfl)
theorem wd_79 {a0 : Array Value} {Z : State} (hw : ∀ d ∈ tables_1, d.before a0 Z = true) : (Jvm.Cond.static ({ cls := "java/lang/String", name := "checkIndex", desc := "(II)V" } : Jvm.MethodName)).before a0 Z = true := hw _ (List.mem_of_getElem? (i := 79) rfl)
theorem wd_80 {a0 : Array Value} {Z : State} (hw : ∀ d ∈ tables_1, d.before a0 Z = true) : (Jvm.Cond.code ({ cls := "java/lang/String", name := "checkIndex", desc := "(II)V" } : Jvm.MethodName) jdk_42_method_155_code (2 : Nat) (Option.none : Option Jvm.ClassFile.FieldType)).before a0 Z = true := hw _ (List.mem_of_getElem? (i := 80) rfl)
theorem wd_81 {a0 : Array Value} {Z : State} (hw : ∀ d ∈ tables_1, d.before a0 Z = true) : (Jvm.Cond.fieldLink "java/lang/String" (1053 : Nat) "jdk/internal/util/Preconditions" "SIOOBE_FORMATTER" "Ljava/util/function/BiFunction;").before a0 Z = true := hw _ (List.mem_of_getElem? (i := 81) rfl)
theorem wd_82 {a0 : Array Value} {Z : State} (hw : ∀ d ∈ tables_1, d.before a0 Z = true) : (Jvm.Cond.initialized "jdk/internal/util/Preconditions").before a0 Z = true := hw _ (List.mem_of_getElem? (i := 82) rfl)
theorem wd_83 {a0 : Array Value} {Z : State} (hw : ∀ d ∈ tables_1, d.before a0 Z = true) : (Jvm.Cond.methodLink "java/lang/String" (1059 : Nat) ({ cls := "jdk/internal/util/Preconditions", name := "checkIndex", desc := "(IILjava/util/function/BiFunction;)I" } : Jvm.MethodName)).before a0 Z = true := hw _ (List.mem_of_getElem? (i := 83) rfl)
theorem wd_84 {a0 : Array Value} {Z : State} (hw : ∀ d ∈ tables_1, d.before a0 Z = true) : (Jvm.Cond.static ({ cls := "jdk/internal/util/Preconditions", name := "checkIndex", desc := "(IILjava/util/function/BiFunction;)I" } : Jvm.MethodName)).before a0 Z = true := hw _ (List.mem_of_getElem? (i := 84) rfl)
theorem wd_85 {a0 : Array Value} {Z : State} (hw : ∀ d ∈ tables_1, d.before a0 Z = true) : (Jvm.Cond.code ({ cls := "jdk/internal/util/Preconditions", name := "checkIndex", desc := "(IILjava/util/function/BiFunction;)I" } : Jvm.MethodName) jdk_41_method_11_code (3 : Nat) (Option.some Jvm.ClassFile.FieldType.int)).before a0 Z = true := hw _ (List.mem_of_getElem? (i := 85) rfl)
theorem wd_86 {a0 : Array Value} {Z : State} (hw : ∀ d ∈ tables_1, d.before a0 Z = true) : (Jvm.Cond.constantLong "com/example/sigyn/sigyn/Digits" (13 : Nat) (-1 : Int64)).before a0 Z = true := hw _ (List.mem_of_getElem? (i := 86) rfl)
theorem wd_87 {a0 : Array Value} {Z : State} (hw : ∀ d ∈ tables_1, d.before a0 Z = true) : (Jvm.Cond.methodLink "com/example/sigyn/sigyn/DigitsReadPinLaw" (46 : Nat) ({ cls := "com/example/sigyn/sigyn/DigitsReadPinLaw", name := "term", desc := "(CIII)J" } : Jvm.MethodName)).before a0 Z = true := hw _ (List.mem_of_getElem? (i := 87) rfl)
theorem wd_88 {a0 : Array Value} {Z : State} (hw : ∀ d ∈ tables_1, d.before a0 Z = true) : (Jvm.Cond.static ({ cls := "com/example/sigyn/sigyn/DigitsReadPinLaw", name := "term", desc := "(CIII)J" } : Jvm.MethodName)).before a0 Z = true := hw _ (List.mem_of_getElem? (i := 88) rfl)
theorem wd_89 {a0 : Array Value} {Z : State} (hw : ∀ d ∈ tables_1, d.before a0 Z = true) : (Jvm.Cond.code ({ cls := "com/example/sigyn/sigyn/DigitsReadPinLaw", name := "term", desc := "(CIII)J" } : Jvm.MethodName) method_5_code (5 : Nat) (Option.some Jvm.ClassFile.FieldType.long)).before a0 Z = true := hw _ (List.mem_of_getElem? (i := 89) rfl)
theorem wd_90 {a0 : Array Value} {Z : State} (hw : ∀ d ∈ tables_1, d.before a0 Z = true) : (Jvm.Cond.methodLink "com/example/sigyn/sigyn/DigitsReadPinLaw" (18 : Nat) ({ cls := "com/example/sigyn/sigyn/DigitsReadPinLaw", name := "digitValue", desc := "(C)I" } : Jvm.MethodName)).before a0 Z = true := hw _ (List.mem_of_getElem? (i := 90) rfl)
theorem wd_91 {a0 : Array Value} {Z : State} (hw : ∀ d ∈ tables_1, d.before a0 Z = true) : (Jvm.Cond.static ({ cls := "com/example/sigyn/sigyn/DigitsReadPinLaw", name := "digitValue", desc := "(C)I" } : Jvm.MethodName)).before a0 Z = true := hw _ (List.mem_of_getElem? (i := 91) rfl)
theorem wd_92 {a0 : Array Value} {Z : State} (hw : ∀ d ∈ tables_1, d.before a0 Z = true) : (Jvm.Cond.code ({ cls := "com/example/sigyn/sigyn/DigitsReadPinLaw", name := "digitValue", desc := "(C)I" } : Jvm.MethodName) method_3_code (1 : Nat) (Option.some Jvm.ClassFile.FieldType.int)).before a0 Z = true := hw _ (List.mem_of_getElem? (i := 92) rfl)
theorem wd_93 {a0 : Array Value} {Z : State} (hw : ∀ d ∈ tables_1, d.before a0 Z = true) : (Jvm.Cond.constantLong "com/example/sigyn/sigyn/DigitsReadPinLaw" (24 : Nat) (-1 : Int64)).before a0 Z = true := hw _ (List.mem_of_getElem? (i := 93) rfl)
theorem wd_94 {a0 : Array Value} {Z : State} (hw : ∀ d ∈ tables_1, d.before a0 Z = true) : (Jvm.Cond.methodLink "com/example/sigyn/sigyn/DigitsReadPinLaw" (26 : Nat) ({ cls := "com/example/sigyn/sigyn/DigitsReadPinLaw", name := "pow10", desc := "(I)J" } : Jvm.MethodName)).before a0 Z = true := hw _ (List.mem_of_getElem? (i := 94) rfl)
theorem wd_95 {a0 : Array Value} {Z : State} (hw : ∀ d ∈ tables_1, d.before a0 Z = true) : (Jvm.Cond.static ({ cls := "com/example/sigyn/sigyn/DigitsReadPinLaw", name := "pow10", desc := "(I)J" } : Jvm.MethodName)).before a0 Z = true := hw _ (List.mem_of_getElem? (i := 95) rfl)
theorem wd_96 {a0 : Array Value} {Z : State} (hw : ∀ d ∈ tables_1, d.before a0 Z = true) : (Jvm.Cond.code ({ cls := "com/example/sigyn/sigyn/DigitsReadPinLaw", name := "pow10", desc := "(I)J" } : Jvm.MethodName) method_4_code (1 : Nat) (Option.some Jvm.ClassFile.FieldType.long)).before a0 Z = true := hw _ (List.mem_of_getElem? (i := 96) rfl)
theorem wd_97 {a0 : Array Value} {Z : State} (hw : ∀ d ∈ tables_1, d.before a0 Z = true) : (Jvm.Cond.constantLong "com/example/sigyn/sigyn/DigitsReadPinLaw" (8 : Nat) (10 : Int64)).before a0 Z = true := hw _ (List.mem_of_getElem? (i := 97) rfl)
theorem wd_98 {a0 : Array Value} {Z : State} (hw : ∀ d ∈ tables_1, d.before a0 Z = true) : (Jvm.Cond.constantLong "com/example/sigyn/sigyn/Digits" (15 : Nat) (10 : Int64)).before a0 Z = true := hw _ (List.mem_of_getElem? (i := 98) rfl)
theorem wd_99 {a0 : Array Value} {Z : State} (hw : ∀ d ∈ tables_1, d.before a0 Z = true) : (Jvm.Cond.constantLong "com/example/sigyn/sigyn/DigitsReadPinLaw" (12 : Nat) (1000 : Int64)).before a0 Z = true := hw _ (List.mem_of_getElem? (i := 99) rfl)
theorem wd_100 {a0 : Array Value} {Z : State} (hw : ∀ d ∈ tables_1, d.before a0 Z = true) : (Jvm.Cond.methodLink "java/lang/String" (495 : Nat) ({ cls := "java/lang/StringLatin1", name := "charAt", desc := "([BI)C" } : Jvm.MethodName)).before a0 Z = true := hw _ (List.mem_of_getElem? (i := 100) rfl)
theorem wd_101 {a0 : Array Value} {Z : State} (hw : ∀ d ∈ tables_1, d.before a0 Z = true) : (Jvm.Cond.static ({ cls := "java/lang/StringLatin1", name := "charAt", desc := "([BI)C" } : Jvm.MethodName)).before a0 Z = true := hw _ (List.mem_of_getElem? (i := 101) rfl)
theorem wd_102 {a0 : Array Value} {Z : State} (hw : ∀ d ∈ tables_1, d.before a0 Z = true) : (Jvm.Cond.initialized "java/lang/StringLatin1").before a0 Z = true := hw _ (List.mem_of_getElem? (i := 102) rfl)
theorem wd_103 {a0 : Array Value} {Z : State} (hw : ∀ d ∈ tables_1, d.before a0 Z = true) : (Jvm.Cond.code ({ cls := "java/lang/StringLatin1", name := "charAt", desc := "([BI)C" } : Jvm.MethodName) jdk_43_method_2_code (2 : Nat) (Option.some Jvm.ClassFile.FieldType.char)).before a0 Z = true := hw _ (List.mem_of_getElem? (i := 103) rfl)
theorem wd_104 {a0 : Array Value} {Z : State} (hw : ∀ d ∈ tables_1, d.before a0 Z = true) : (Jvm.Cond.methodLink "java/lang/StringLatin1" (9 : Nat) ({ cls := "java/lang/String", name := "checkIndex", desc := "(II)V" } : Jvm.MethodName)).before a0 Z = true := hw _ (List.mem_of_getElem? (i := 104) rfl)
theorem wd_105 {a0 : Array Value} {Z : State} (hw : ∀ d ∈ tables_1, d.before a0 Z = true) : (Jvm.Cond.constantLong "com/example/sigyn/sigyn/DigitsReadPinLaw" (10 : Nat) (100 : Int64)).before a0 Z = true := hw _ (List.mem_of_getElem? (i := 105) rfl)
theorem wd_106 {a0 : Array Value} {Z : State} (hw : ∀ d ∈ tables_1, d.before a0 Z = true) : (Jvm.Cond.constantLong "com/example/sigyn/sigyn/DigitsReadPinLaw" (14 : Nat) (10000 : Int64)).before a0 Z = true := hw _ (List.mem_of_getElem? (i := 106) rfl)
theorem wd_107 {a0 : Array Value} {Z : State} (hw : ∀ d ∈ tables_1, d.before a0 Z = true) : (Jvm.Cond.constantLong "com/example/sigyn/sigyn/DigitsReadPinLaw" (16 : Nat) (100000 : Int64)).before a0 Z = true := hw _ (List.mem_of_getElem? (i := 107) rfl)
theorem pn_0 : plainName "com/example/sigyn/sigyn/DigitsReadPinLaw" = true := by first | (simp [plainName, overriddenIn]; done) | decide +kernel
theorem pn_1 : plainName "java/lang/StringUTF16" = true := by first | (simp [plainName, overriddenIn]; done) | decide +kernel
theorem pn_2 : plainName "java/lang/String" = true := by first | (simp [plainName, overriddenIn]; done) | decide +kernel
theorem pn_3 : plainName "jdk/internal/util/Preconditions" = true := by first | (simp [plainName, overriddenIn]; done) | decide +kernel
theorem pn_4 : plainName "java/lang/StringLatin1" = true := by first | (simp [plainName, overriddenIn]; done) | decide +kernel
theorem pn_5 : plainName "com/example/sigyn/sigyn/Digits" = true := by first | (simp [plainName, overriddenIn]; done) | decide +kernel
theorem pd_0 : parseMethodDescriptor "(I)I" = some ⟨[.int], some .int⟩ := by decide +kernel
theorem pd_1 : parseMethodDescriptor "(I)[B" = some ⟨[.int], some (.array .byte)⟩ := by decide +kernel
theorem pd_2 : parseMethodDescriptor "([BII)V" = some ⟨[(.array .byte), .int, .int], none⟩ := by decide +kernel
theorem pd_3 : parseMethodDescriptor "([CI[BII)I" = some ⟨[(.array .char), .int, (.array .byte), .int, .int], some .int⟩ := by decide +kernel
theorem pd_4 : parseMethodDescriptor "([CII)[B" = some ⟨[(.array .char), .int, .int], some (.array .byte)⟩ := by decide +kernel
theorem pd_5 : parseMethodDescriptor "([BI)C" = some ⟨[(.array .byte), .int], some .char⟩ := by decide +kernel
theorem pd_6 : parseMethodDescriptor "([BI)B" = some ⟨[(.array .byte), .int], some .byte⟩ := by decide +kernel
theorem pd_7 : parseMethodDescriptor "([CIILjava/lang/Void;)V" = some ⟨[(.array .char), .int, .int, (.object "java/lang/Void")], none⟩ := by decide +kernel
theorem pd_8 : parseMethodDescriptor "(IILjava/util/function/BiFunction;)I" = some ⟨[.int, .int, (.object "java/util/function/BiFunction")], some .int⟩ := by decide +kernel
theorem pd_9 : parseMethodDescriptor "([B)I" = some ⟨[(.array .byte)], some .int⟩ := by decide +kernel
theorem pd_10 : parseMethodDescriptor "(II)V" = some ⟨[.int, .int], none⟩ := by decide +kernel
theorem pd_11 : parseMethodDescriptor "(I[B)V" = some ⟨[.int, (.array .byte)], none⟩ := by decide +kernel
theorem pd_12 : parseMethodDescriptor "()Z" = some ⟨[], some .boolean⟩ := by decide +kernel
theorem pd_13 : parseMethodDescriptor "(I)C" = some ⟨[.int], some .char⟩ := by decide +kernel
theorem pd_14 : parseMethodDescriptor "(C)I" = some ⟨[.char], some .int⟩ := by decide +kernel
theorem pd_15 : parseMethodDescriptor "(I)J" = some ⟨[.int], some .long⟩ := by decide +kernel
theorem pd_16 : parseMethodDescriptor "([C)V" = some ⟨[(.array .char)], none⟩ := by decide +kernel
theorem pd_17 : parseMethodDescriptor "(Ljava/lang/String;II)J" = some ⟨[(.object "java/lang/String"), .int, .int], some .long⟩ := by decide +kernel
theorem pd_18 : parseMethodDescriptor "(CIII)J" = some ⟨[.char, .int, .int, .int], some .long⟩ := by decide +kernel
theorem pf_0 : parseFieldDescriptor "B" = some .byte := by decide +kernel
theorem pf_1 : parseFieldDescriptor "[B" = some (.array .byte) := by decide +kernel
theorem sn_0 {a0 : Array Value} {Z : State} (hw : ∀ d ∈ tables_1, d.before a0 Z = true) : Jvm.RoadKit.slotOf Z "java/lang/String" "value" "[B" ≠ Jvm.RoadKit.slotOf Z "java/lang/String" "coder" "B" := slot_ne (a0 := a0) (C := "java/lang/String") (Or.inr (wd_54 hw)) (Or.inr (wd_52 hw)) (by decide) pf_1 pf_0
theorem sn_1 {a0 : Array Value} {Z : State} (hw : ∀ d ∈ tables_1, d.before a0 Z = true) : Jvm.RoadKit.slotOf Z "java/lang/String" "coder" "B" ≠ Jvm.RoadKit.slotOf Z "java/lang/String" "value" "[B" := slot_ne (a0 := a0) (C := "java/lang/String") (Or.inr (wd_52 hw)) (Or.inr (wd_54 hw)) (by decide) pf_0 pf_1
theorem d_jdk_41_method_11_code_0 : decode jdk_41_method_11_code 0 = .ok (.iload_n 0, 1) := by decide +kernel
theorem d_jdk_41_method_11_code_1 : decode jdk_41_method_11_code 1 = .ok (.ifCond .lt 8, 3) := by decide +kernel
theorem d_jdk_41_method_11_code_16 : decode jdk_41_method_11_code 16 = .ok (.iload_n 0, 1) := by decide +kernel
theorem d_jdk_41_method_11_code_17 : decode jdk_41_method_11_code 17 = .ok (.ireturn, 1) := by decide +kernel
theorem d_jdk_41_method_11_code_4 : decode jdk_41_method_11_code 4 = .ok (.iload_n 0, 1) := by decide +kernel
theorem d_jdk_41_method_11_code_5 : decode jdk_41_method_11_code 5 = .ok (.iload_n 1, 1) := by decide +kernel
theorem d_jdk_41_method_11_code_6 : decode jdk_41_method_11_code 6 = .ok (.if_icmp .lt 10, 3) := by decide +kernel
theorem d_jdk_42_method_149_code_0 : decode jdk_42_method_149_code 0 = .ok (.aload_n 0, 1) := by decide +kernel
theorem d_jdk_42_method_149_code_1 : decode jdk_42_method_149_code 1 = .ok (.invokespecial 1, 3) := by decide +kernel
theorem d_jdk_42_method_149_code_27 : decode jdk_42_method_149_code 27 = .ok (.getstatic 38, 3) := by decide +kernel
theorem d_jdk_42_method_149_code_30 : decode jdk_42_method_149_code 30 = .ok (.ifCond .eq 28, 3) := by decide +kernel
theorem d_jdk_42_method_149_code_33 : decode jdk_42_method_149_code 33 = .ok (.aload_n 1, 1) := by decide +kernel
theorem d_jdk_42_method_149_code_34 : decode jdk_42_method_149_code 34 = .ok (.iload_n 2, 1) := by decide +kernel
theorem d_jdk_42_method_149_code_35 : decode jdk_42_method_149_code 35 = .ok (.iload_n 3, 1) := by decide +kernel
theorem d_jdk_42_method_149_code_36 : decode jdk_42_method_149_code 36 = .ok (.invokestatic 177, 3) := by decide +kernel
theorem d_jdk_42_method_149_code_39 : decode jdk_42_method_149_code 39 = .ok (.astore 5, 2) := by decide +kernel
theorem d_jdk_42_method_149_code_4 : decode jdk_42_method_149_code 4 = .ok (.iload_n 3, 1) := by decide +kernel
theorem d_jdk_42_method_149_code_41 : decode jdk_42_method_149_code 41 = .ok (.aload_n 0, 1) := by decide +kernel
theorem d_jdk_42_method_149_code_42 : decode jdk_42_method_149_code 42 = .ok (.aload 5, 2) := by decide +kernel
theorem d_jdk_42_method_149_code_44 : decode jdk_42_method_149_code 44 = .ok (.iload_n 3, 1) := by decide +kernel
theorem d_jdk_42_method_149_code_45 : decode jdk_42_method_149_code 45 = .ok (.invokestatic 47, 3) := by decide +kernel
theorem d_jdk_42_method_149_code_48 : decode jdk_42_method_149_code 48 = .ok (.putfield 15, 3) := by decide +kernel
theorem d_jdk_42_method_149_code_5 : decode jdk_42_method_149_code 5 = .ok (.ifCond .ne 22, 3) := by decide +kernel
theorem d_jdk_42_method_149_code_51 : decode jdk_42_method_149_code 51 = .ok (.aload_n 0, 1) := by decide +kernel
theorem d_jdk_42_method_149_code_52 : decode jdk_42_method_149_code 52 = .ok (.aload 5, 2) := by decide +kernel
theorem d_jdk_42_method_149_code_54 : decode jdk_42_method_149_code 54 = .ok (.putfield 9, 3) := by decide +kernel
theorem d_jdk_42_method_149_code_57 : decode jdk_42_method_149_code 57 = .ok (.return_, 1) := by decide +kernel
theorem d_jdk_42_method_154_code_0 : decode jdk_42_method_154_code 0 = .ok (.getstatic 38, 3) := by decide +kernel
theorem d_jdk_42_method_154_code_10 : decode jdk_42_method_154_code 10 = .ok (.ifCond .ne 7, 3) := by decide +kernel
theorem d_jdk_42_method_154_code_13 : decode jdk_42_method_154_code 13 = .ok (.iconst 1, 1) := by decide +kernel
theorem d_jdk_42_method_154_code_14 : decode jdk_42_method_154_code 14 = .ok (.goto 4, 3) := by decide +kernel
theorem d_jdk_42_method_154_code_17 : decode jdk_42_method_154_code 17 = .ok (.iconst 0, 1) := by decide +kernel
theorem d_jdk_42_method_154_code_18 : decode jdk_42_method_154_code 18 = .ok (.ireturn, 1) := by decide +kernel
theorem d_jdk_42_method_154_code_3 : decode jdk_42_method_154_code 3 = .ok (.ifCond .eq 14, 3) := by decide +kernel
theorem d_jdk_42_method_154_code_6 : decode jdk_42_method_154_code 6 = .ok (.aload_n 0, 1) := by decide +kernel
theorem d_jdk_42_method_154_code_7 : decode jdk_42_method_154_code 7 = .ok (.getfield 15, 3) := by decide +kernel
theorem d_jdk_42_method_155_code_0 : decode jdk_42_method_155_code 0 = .ok (.iload_n 0, 1) := by decide +kernel
theorem d_jdk_42_method_155_code_1 : decode jdk_42_method_155_code 1 = .ok (.iload_n 1, 1) := by decide +kernel
theorem d_jdk_42_method_155_code_2 : decode jdk_42_method_155_code 2 = .ok (.getstatic 1053, 3) := by decide +kernel
theorem d_jdk_42_method_155_code_5 : decode jdk_42_method_155_code 5 = .ok (.invokestatic 1059, 3) := by decide +kernel
theorem d_jdk_42_method_155_code_8 : decode jdk_42_method_155_code 8 = .ok (.pop, 1) := by decide +kernel
theorem d_jdk_42_method_155_code_9 : decode jdk_42_method_155_code 9 = .ok (.return_, 1) := by decide +kernel
theorem d_jdk_42_method_3_code_0 : decode jdk_42_method_3_code 0 = .ok (.aload_n 0, 1) := by decide +kernel
theorem d_jdk_42_method_3_code_1 : decode jdk_42_method_3_code 1 = .ok (.aload_n 1, 1) := by decide +kernel
theorem d_jdk_42_method_3_code_2 : decode jdk_42_method_3_code 2 = .ok (.iconst 0, 1) := by decide +kernel
theorem d_jdk_42_method_3_code_3 : decode jdk_42_method_3_code 3 = .ok (.aload_n 1, 1) := by decide +kernel
theorem d_jdk_42_method_3_code_4 : decode jdk_42_method_3_code 4 = .ok (.arraylength, 1) := by decide +kernel
theorem d_jdk_42_method_3_code_5 : decode jdk_42_method_3_code 5 = .ok (.aconst_null, 1) := by decide +kernel
theorem d_jdk_42_method_3_code_6 : decode jdk_42_method_3_code 6 = .ok (.invokespecial 27, 3) := by decide +kernel
theorem d_jdk_42_method_3_code_9 : decode jdk_42_method_3_code 9 = .ok (.return_, 1) := by decide +kernel
theorem d_jdk_42_method_56_code_0 : decode jdk_42_method_56_code 0 = .ok (.aload_n 0, 1) := by decide +kernel
theorem d_jdk_42_method_56_code_1 : decode jdk_42_method_56_code 1 = .ok (.invokevirtual 492, 3) := by decide +kernel
theorem d_jdk_42_method_56_code_11 : decode jdk_42_method_56_code 11 = .ok (.iload_n 1, 1) := by decide +kernel
theorem d_jdk_42_method_56_code_12 : decode jdk_42_method_56_code 12 = .ok (.invokestatic 495, 3) := by decide +kernel
theorem d_jdk_42_method_56_code_15 : decode jdk_42_method_56_code 15 = .ok (.ireturn, 1) := by decide +kernel
theorem d_jdk_42_method_56_code_16 : decode jdk_42_method_56_code 16 = .ok (.aload_n 0, 1) := by decide +kernel
theorem d_jdk_42_method_56_code_17 : decode jdk_42_method_56_code 17 = .ok (.getfield 9, 3) := by decide +kernel
theorem d_jdk_42_method_56_code_20 : decode jdk_42_method_56_code 20 = .ok (.iload_n 1, 1) := by decide +kernel
theorem d_jdk_42_method_56_code_21 : decode jdk_42_method_56_code 21 = .ok (.invokestatic 498, 3) := by decide +kernel
theorem d_jdk_42_method_56_code_24 : decode jdk_42_method_56_code 24 = .ok (.ireturn, 1) := by decide +kernel
theorem d_jdk_42_method_56_code_4 : decode jdk_42_method_56_code 4 = .ok (.ifCond .eq 12, 3) := by decide +kernel
theorem d_jdk_42_method_56_code_7 : decode jdk_42_method_56_code 7 = .ok (.aload_n 0, 1) := by decide +kernel
theorem d_jdk_42_method_56_code_8 : decode jdk_42_method_56_code 8 = .ok (.getfield 9, 3) := by decide +kernel
theorem d_jdk_43_method_2_code_0 : decode jdk_43_method_2_code 0 = .ok (.iload_n 1, 1) := by decide +kernel
theorem d_jdk_43_method_2_code_1 : decode jdk_43_method_2_code 1 = .ok (.aload_n 0, 1) := by decide +kernel
theorem d_jdk_43_method_2_code_12 : decode jdk_43_method_2_code 12 = .ok (.iand, 1) := by decide +kernel
theorem d_jdk_43_method_2_code_13 : decode jdk_43_method_2_code 13 = .ok (.i2c, 1) := by decide +kernel
theorem d_jdk_43_method_2_code_14 : decode jdk_43_method_2_code 14 = .ok (.ireturn, 1) := by decide +kernel
theorem d_jdk_43_method_2_code_2 : decode jdk_43_method_2_code 2 = .ok (.arraylength, 1) := by decide +kernel
theorem d_jdk_43_method_2_code_3 : decode jdk_43_method_2_code 3 = .ok (.invokestatic 9, 3) := by decide +kernel
theorem d_jdk_43_method_2_code_6 : decode jdk_43_method_2_code 6 = .ok (.aload_n 0, 1) := by decide +kernel
theorem d_jdk_43_method_2_code_7 : decode jdk_43_method_2_code 7 = .ok (.iload_n 1, 1) := by decide +kernel
theorem d_jdk_43_method_2_code_8 : decode jdk_43_method_2_code 8 = .ok (.baload, 1) := by decide +kernel
theorem d_jdk_43_method_2_code_9 : decode jdk_43_method_2_code 9 = .ok (.sipush 255, 3) := by decide +kernel
theorem d_jdk_52_method_14_code_0 : decode jdk_52_method_14_code 0 = .ok (.iload_n 2, 1) := by decide +kernel
theorem d_jdk_52_method_14_code_1 : decode jdk_52_method_14_code 1 = .ok (.invokestatic 107, 3) := by decide +kernel
theorem d_jdk_52_method_14_code_10 : decode jdk_52_method_14_code 10 = .ok (.iload_n 2, 1) := by decide +kernel
theorem d_jdk_52_method_14_code_11 : decode jdk_52_method_14_code 11 = .ok (.if_icmp .ge 21, 3) := by decide +kernel
theorem d_jdk_52_method_14_code_14 : decode jdk_52_method_14_code 14 = .ok (.aload_n 3, 1) := by decide +kernel
theorem d_jdk_52_method_14_code_15 : decode jdk_52_method_14_code 15 = .ok (.iload 4, 2) := by decide +kernel
theorem d_jdk_52_method_14_code_17 : decode jdk_52_method_14_code 17 = .ok (.aload_n 0, 1) := by decide +kernel
theorem d_jdk_52_method_14_code_18 : decode jdk_52_method_14_code 18 = .ok (.iload_n 1, 1) := by decide +kernel
theorem d_jdk_52_method_14_code_19 : decode jdk_52_method_14_code 19 = .ok (.caload, 1) := by decide +kernel
theorem d_jdk_52_method_14_code_20 : decode jdk_52_method_14_code 20 = .ok (.invokestatic 111, 3) := by decide +kernel
theorem d_jdk_52_method_14_code_23 : decode jdk_52_method_14_code 23 = .ok (.iinc 1 1, 3) := by decide +kernel
theorem d_jdk_52_method_14_code_26 : decode jdk_52_method_14_code 26 = .ok (.iinc 4 1, 3) := by decide +kernel
theorem d_jdk_52_method_14_code_29 : decode jdk_52_method_14_code 29 = .ok (.goto (-21), 3) := by decide +kernel
theorem d_jdk_52_method_14_code_32 : decode jdk_52_method_14_code 32 = .ok (.aload_n 3, 1) := by decide +kernel
theorem d_jdk_52_method_14_code_33 : decode jdk_52_method_14_code 33 = .ok (.areturn, 1) := by decide +kernel
theorem d_jdk_52_method_14_code_4 : decode jdk_52_method_14_code 4 = .ok (.astore_n 3, 1) := by decide +kernel
theorem d_jdk_52_method_14_code_5 : decode jdk_52_method_14_code 5 = .ok (.iconst 0, 1) := by decide +kernel
theorem d_jdk_52_method_14_code_6 : decode jdk_52_method_14_code 6 = .ok (.istore 4, 2) := by decide +kernel
theorem d_jdk_52_method_14_code_8 : decode jdk_52_method_14_code 8 = .ok (.iload 4, 2) := by decide +kernel
theorem d_jdk_52_method_15_code_0 : decode jdk_52_method_15_code 0 = .ok (.iload_n 1, 1) := by decide +kernel
theorem d_jdk_52_method_15_code_1 : decode jdk_52_method_15_code 1 = .ok (.aload_n 0, 1) := by decide +kernel
theorem d_jdk_52_method_15_code_2 : decode jdk_52_method_15_code 2 = .ok (.arraylength, 1) := by decide +kernel
theorem d_jdk_52_method_15_code_3 : decode jdk_52_method_15_code 3 = .ok (.isub, 1) := by decide +kernel
theorem d_jdk_52_method_15_code_4 : decode jdk_52_method_15_code 4 = .ok (.bipush 31, 2) := by decide +kernel
theorem d_jdk_52_method_15_code_6 : decode jdk_52_method_15_code 6 = .ok (.iushr, 1) := by decide +kernel
theorem d_jdk_52_method_15_code_7 : decode jdk_52_method_15_code 7 = .ok (.i2b, 1) := by decide +kernel
theorem d_jdk_52_method_15_code_8 : decode jdk_52_method_15_code 8 = .ok (.ireturn, 1) := by decide +kernel
theorem d_jdk_52_method_16_code_0 : decode jdk_52_method_16_code 0 = .ok (.iload_n 2, 1) := by decide +kernel
theorem d_jdk_52_method_16_code_1 : decode jdk_52_method_16_code 1 = .ok (.newarray .byte, 2) := by decide +kernel
theorem d_jdk_52_method_16_code_12 : decode jdk_52_method_16_code 12 = .ok (.istore 4, 2) := by decide +kernel
theorem d_jdk_52_method_16_code_14 : decode jdk_52_method_16_code 14 = .ok (.iload 4, 2) := by decide +kernel
theorem d_jdk_52_method_16_code_16 : decode jdk_52_method_16_code 16 = .ok (.iload_n 2, 1) := by decide +kernel
theorem d_jdk_52_method_16_code_17 : decode jdk_52_method_16_code 17 = .ok (.if_icmp .eq 40, 3) := by decide +kernel
theorem d_jdk_52_method_16_code_20 : decode jdk_52_method_16_code 20 = .ok (.aload_n 0, 1) := by decide +kernel
theorem d_jdk_52_method_16_code_21 : decode jdk_52_method_16_code 21 = .ok (.iload_n 1, 1) := by decide +kernel
theorem d_jdk_52_method_16_code_22 : decode jdk_52_method_16_code 22 = .ok (.iload_n 2, 1) := by decide +kernel
theorem d_jdk_52_method_16_code_23 : decode jdk_52_method_16_code 23 = .ok (.invokestatic 119, 3) := by decide +kernel
theorem d_jdk_52_method_16_code_26 : decode jdk_52_method_16_code 26 = .ok (.astore 5, 2) := by decide +kernel
theorem d_jdk_52_method_16_code_28 : decode jdk_52_method_16_code 28 = .ok (.aload 5, 2) := by decide +kernel
theorem d_jdk_52_method_16_code_3 : decode jdk_52_method_16_code 3 = .ok (.astore_n 3, 1) := by decide +kernel
theorem d_jdk_52_method_16_code_30 : decode jdk_52_method_16_code 30 = .ok (.iload 4, 2) := by decide +kernel
theorem d_jdk_52_method_16_code_32 : decode jdk_52_method_16_code 32 = .ok (.invokestatic 71, 3) := by decide +kernel
theorem d_jdk_52_method_16_code_35 : decode jdk_52_method_16_code 35 = .ok (.sipush 255, 3) := by decide +kernel
theorem d_jdk_52_method_16_code_38 : decode jdk_52_method_16_code 38 = .ok (.if_icmp .gt 16, 3) := by decide +kernel
theorem d_jdk_52_method_16_code_4 : decode jdk_52_method_16_code 4 = .ok (.aload_n 0, 1) := by decide +kernel
theorem d_jdk_52_method_16_code_5 : decode jdk_52_method_16_code 5 = .ok (.iload_n 1, 1) := by decide +kernel
theorem d_jdk_52_method_16_code_54 : decode jdk_52_method_16_code 54 = .ok (.aload 5, 2) := by decide +kernel
theorem d_jdk_52_method_16_code_56 : decode jdk_52_method_16_code 56 = .ok (.areturn, 1) := by decide +kernel
theorem d_jdk_52_method_16_code_57 : decode jdk_52_method_16_code 57 = .ok (.aload_n 3, 1) := by decide +kernel
theorem d_jdk_52_method_16_code_58 : decode jdk_52_method_16_code 58 = .ok (.areturn, 1) := by decide +kernel
theorem d_jdk_52_method_16_code_6 : decode jdk_52_method_16_code 6 = .ok (.aload_n 3, 1) := by decide +kernel
theorem d_jdk_52_method_16_code_7 : decode jdk_52_method_16_code 7 = .ok (.iconst 0, 1) := by decide +kernel
theorem d_jdk_52_method_16_code_8 : decode jdk_52_method_16_code 8 = .ok (.iload_n 2, 1) := by decide +kernel
theorem d_jdk_52_method_16_code_9 : decode jdk_52_method_16_code 9 = .ok (.invokestatic 115, 3) := by decide +kernel
theorem d_jdk_52_method_21_code_0 : decode jdk_52_method_21_code 0 = .ok (.iconst 0, 1) := by decide +kernel
theorem d_jdk_52_method_21_code_1 : decode jdk_52_method_21_code 1 = .ok (.istore 5, 2) := by decide +kernel
theorem d_jdk_52_method_21_code_10 : decode jdk_52_method_21_code 10 = .ok (.aload_n 0, 1) := by decide +kernel
theorem d_jdk_52_method_21_code_11 : decode jdk_52_method_21_code 11 = .ok (.iload_n 1, 1) := by decide +kernel
theorem d_jdk_52_method_21_code_12 : decode jdk_52_method_21_code 12 = .ok (.caload, 1) := by decide +kernel
theorem d_jdk_52_method_21_code_13 : decode jdk_52_method_21_code 13 = .ok (.istore 6, 2) := by decide +kernel
theorem d_jdk_52_method_21_code_15 : decode jdk_52_method_21_code 15 = .ok (.iload 6, 2) := by decide +kernel
theorem d_jdk_52_method_21_code_17 : decode jdk_52_method_21_code 17 = .ok (.sipush 255, 3) := by decide +kernel
theorem d_jdk_52_method_21_code_20 : decode jdk_52_method_21_code 20 = .ok (.if_icmp .le 6, 3) := by decide +kernel
theorem d_jdk_52_method_21_code_23 : decode jdk_52_method_21_code 23 = .ok (.iload 5, 2) := by decide +kernel
theorem d_jdk_52_method_21_code_25 : decode jdk_52_method_21_code 25 = .ok (.ireturn, 1) := by decide +kernel
theorem d_jdk_52_method_21_code_26 : decode jdk_52_method_21_code 26 = .ok (.aload_n 2, 1) := by decide +kernel
theorem d_jdk_52_method_21_code_27 : decode jdk_52_method_21_code 27 = .ok (.iload_n 3, 1) := by decide +kernel
theorem d_jdk_52_method_21_code_28 : decode jdk_52_method_21_code 28 = .ok (.iload 6, 2) := by decide +kernel
theorem d_jdk_52_method_21_code_3 : decode jdk_52_method_21_code 3 = .ok (.iload 5, 2) := by decide +kernel
theorem d_jdk_52_method_21_code_30 : decode jdk_52_method_21_code 30 = .ok (.i2b, 1) := by decide +kernel
theorem d_jdk_52_method_21_code_31 : decode jdk_52_method_21_code 31 = .ok (.bastore, 1) := by decide +kernel
theorem d_jdk_52_method_21_code_32 : decode jdk_52_method_21_code 32 = .ok (.iinc 1 1, 3) := by decide +kernel
theorem d_jdk_52_method_21_code_35 : decode jdk_52_method_21_code 35 = .ok (.iinc 3 1, 3) := by decide +kernel
theorem d_jdk_52_method_21_code_38 : decode jdk_52_method_21_code 38 = .ok (.iinc 5 1, 3) := by decide +kernel
theorem d_jdk_52_method_21_code_41 : decode jdk_52_method_21_code 41 = .ok (.goto (-38), 3) := by decide +kernel
theorem d_jdk_52_method_21_code_44 : decode jdk_52_method_21_code 44 = .ok (.iload 4, 2) := by decide +kernel
theorem d_jdk_52_method_21_code_46 : decode jdk_52_method_21_code 46 = .ok (.ireturn, 1) := by decide +kernel
theorem d_jdk_52_method_21_code_5 : decode jdk_52_method_21_code 5 = .ok (.iload 4, 2) := by decide +kernel
theorem d_jdk_52_method_21_code_7 : decode jdk_52_method_21_code 7 = .ok (.if_icmp .ge 37, 3) := by decide +kernel
theorem d_jdk_52_method_2_code_0 : decode jdk_52_method_2_code 0 = .ok (.iload_n 0, 1) := by decide +kernel
theorem d_jdk_52_method_2_code_1 : decode jdk_52_method_2_code 1 = .ok (.invokestatic 11, 3) := by decide +kernel
theorem d_jdk_52_method_2_code_4 : decode jdk_52_method_2_code 4 = .ok (.newarray .byte, 2) := by decide +kernel
theorem d_jdk_52_method_2_code_6 : decode jdk_52_method_2_code 6 = .ok (.areturn, 1) := by decide +kernel
theorem d_jdk_52_method_3_code_0 : decode jdk_52_method_3_code 0 = .ok (.iload_n 0, 1) := by decide +kernel
theorem d_jdk_52_method_3_code_1 : decode jdk_52_method_3_code 1 = .ok (.ifCond .ge 11, 3) := by decide +kernel
theorem d_jdk_52_method_3_code_12 : decode jdk_52_method_3_code 12 = .ok (.iload_n 0, 1) := by decide +kernel
theorem d_jdk_52_method_3_code_13 : decode jdk_52_method_3_code 13 = .ok (.ldc 20, 2) := by decide +kernel
theorem d_jdk_52_method_3_code_15 : decode jdk_52_method_3_code 15 = .ok (.if_icmp .lt 40, 3) := by decide +kernel
theorem d_jdk_52_method_3_code_55 : decode jdk_52_method_3_code 55 = .ok (.iload_n 0, 1) := by decide +kernel
theorem d_jdk_52_method_3_code_56 : decode jdk_52_method_3_code 56 = .ok (.iconst 1, 1) := by decide +kernel
theorem d_jdk_52_method_3_code_57 : decode jdk_52_method_3_code 57 = .ok (.ishl, 1) := by decide +kernel
theorem d_jdk_52_method_3_code_58 : decode jdk_52_method_3_code 58 = .ok (.ireturn, 1) := by decide +kernel
theorem d_jdk_52_method_4_code_0 : decode jdk_52_method_4_code 0 = .ok (.getstatic 44, 3) := by decide +kernel
theorem d_jdk_52_method_4_code_28 : decode jdk_52_method_4_code 28 = .ok (.iload_n 1, 1) := by decide +kernel
theorem d_jdk_52_method_4_code_29 : decode jdk_52_method_4_code 29 = .ok (.iconst 1, 1) := by decide +kernel
theorem d_jdk_52_method_4_code_3 : decode jdk_52_method_4_code 3 = .ok (.ifCond .ne 25, 3) := by decide +kernel
theorem d_jdk_52_method_4_code_30 : decode jdk_52_method_4_code 30 = .ok (.ishl, 1) := by decide +kernel
theorem d_jdk_52_method_4_code_31 : decode jdk_52_method_4_code 31 = .ok (.istore_n 1, 1) := by decide +kernel
theorem d_jdk_52_method_4_code_32 : decode jdk_52_method_4_code 32 = .ok (.aload_n 0, 1) := by decide +kernel
theorem d_jdk_52_method_4_code_33 : decode jdk_52_method_4_code 33 = .ok (.iload_n 1, 1) := by decide +kernel
theorem d_jdk_52_method_4_code_34 : decode jdk_52_method_4_code 34 = .ok (.iinc 1 1, 3) := by decide +kernel
theorem d_jdk_52_method_4_code_37 : decode jdk_52_method_4_code 37 = .ok (.iload_n 2, 1) := by decide +kernel
theorem d_jdk_52_method_4_code_38 : decode jdk_52_method_4_code 38 = .ok (.getstatic 59, 3) := by decide +kernel
theorem d_jdk_52_method_4_code_41 : decode jdk_52_method_4_code 41 = .ok (.ishr, 1) := by decide +kernel
theorem d_jdk_52_method_4_code_42 : decode jdk_52_method_4_code 42 = .ok (.i2b, 1) := by decide +kernel
theorem d_jdk_52_method_4_code_43 : decode jdk_52_method_4_code 43 = .ok (.bastore, 1) := by decide +kernel
theorem d_jdk_52_method_4_code_44 : decode jdk_52_method_4_code 44 = .ok (.aload_n 0, 1) := by decide +kernel
theorem d_jdk_52_method_4_code_45 : decode jdk_52_method_4_code 45 = .ok (.iload_n 1, 1) := by decide +kernel
theorem d_jdk_52_method_4_code_46 : decode jdk_52_method_4_code 46 = .ok (.iload_n 2, 1) := by decide +kernel
theorem d_jdk_52_method_4_code_47 : decode jdk_52_method_4_code 47 = .ok (.getstatic 63, 3) := by decide +kernel
theorem d_jdk_52_method_4_code_50 : decode jdk_52_method_4_code 50 = .ok (.ishr, 1) := by decide +kernel
theorem d_jdk_52_method_4_code_51 : decode jdk_52_method_4_code 51 = .ok (.i2b, 1) := by decide +kernel
theorem d_jdk_52_method_4_code_52 : decode jdk_52_method_4_code 52 = .ok (.bastore, 1) := by decide +kernel
theorem d_jdk_52_method_4_code_53 : decode jdk_52_method_4_code 53 = .ok (.return_, 1) := by decide +kernel
theorem d_jdk_52_method_5_code_0 : decode jdk_52_method_5_code 0 = .ok (.getstatic 44, 3) := by decide +kernel
theorem d_jdk_52_method_5_code_28 : decode jdk_52_method_5_code 28 = .ok (.iload_n 1, 1) := by decide +kernel
theorem d_jdk_52_method_5_code_29 : decode jdk_52_method_5_code 29 = .ok (.iconst 1, 1) := by decide +kernel
theorem d_jdk_52_method_5_code_3 : decode jdk_52_method_5_code 3 = .ok (.ifCond .ne 25, 3) := by decide +kernel
theorem d_jdk_52_method_5_code_30 : decode jdk_52_method_5_code 30 = .ok (.ishl, 1) := by decide +kernel
theorem d_jdk_52_method_5_code_31 : decode jdk_52_method_5_code 31 = .ok (.istore_n 1, 1) := by decide +kernel
theorem d_jdk_52_method_5_code_32 : decode jdk_52_method_5_code 32 = .ok (.aload_n 0, 1) := by decide +kernel
theorem d_jdk_52_method_5_code_33 : decode jdk_52_method_5_code 33 = .ok (.iload_n 1, 1) := by decide +kernel
theorem d_jdk_52_method_5_code_34 : decode jdk_52_method_5_code 34 = .ok (.iinc 1 1, 3) := by decide +kernel
theorem d_jdk_52_method_5_code_37 : decode jdk_52_method_5_code 37 = .ok (.baload, 1) := by decide +kernel
theorem d_jdk_52_method_5_code_38 : decode jdk_52_method_5_code 38 = .ok (.sipush 255, 3) := by decide +kernel
theorem d_jdk_52_method_5_code_41 : decode jdk_52_method_5_code 41 = .ok (.iand, 1) := by decide +kernel
theorem d_jdk_52_method_5_code_42 : decode jdk_52_method_5_code 42 = .ok (.getstatic 59, 3) := by decide +kernel
theorem d_jdk_52_method_5_code_45 : decode jdk_52_method_5_code 45 = .ok (.ishl, 1) := by decide +kernel
theorem d_jdk_52_method_5_code_46 : decode jdk_52_method_5_code 46 = .ok (.aload_n 0, 1) := by decide +kernel
theorem d_jdk_52_method_5_code_47 : decode jdk_52_method_5_code 47 = .ok (.iload_n 1, 1) := by decide +kernel
theorem d_jdk_52_method_5_code_48 : decode jdk_52_method_5_code 48 = .ok (.baload, 1) := by decide +kernel
theorem d_jdk_52_method_5_code_49 : decode jdk_52_method_5_code 49 = .ok (.sipush 255, 3) := by decide +kernel
theorem d_jdk_52_method_5_code_52 : decode jdk_52_method_5_code 52 = .ok (.iand, 1) := by decide +kernel
theorem d_jdk_52_method_5_code_53 : decode jdk_52_method_5_code 53 = .ok (.getstatic 63, 3) := by decide +kernel
theorem d_jdk_52_method_5_code_56 : decode jdk_52_method_5_code 56 = .ok (.ishl, 1) := by decide +kernel
theorem d_jdk_52_method_5_code_57 : decode jdk_52_method_5_code 57 = .ok (.ior, 1) := by decide +kernel
theorem d_jdk_52_method_5_code_58 : decode jdk_52_method_5_code 58 = .ok (.i2c, 1) := by decide +kernel
theorem d_jdk_52_method_5_code_59 : decode jdk_52_method_5_code 59 = .ok (.ireturn, 1) := by decide +kernel
theorem d_jdk_52_method_6_code_0 : decode jdk_52_method_6_code 0 = .ok (.aload_n 0, 1) := by decide +kernel
theorem d_jdk_52_method_6_code_1 : decode jdk_52_method_6_code 1 = .ok (.arraylength, 1) := by decide +kernel
theorem d_jdk_52_method_6_code_2 : decode jdk_52_method_6_code 2 = .ok (.iconst 1, 1) := by decide +kernel
theorem d_jdk_52_method_6_code_3 : decode jdk_52_method_6_code 3 = .ok (.ishr, 1) := by decide +kernel
theorem d_jdk_52_method_6_code_4 : decode jdk_52_method_6_code 4 = .ok (.ireturn, 1) := by decide +kernel
theorem d_jdk_52_method_83_code_0 : decode jdk_52_method_83_code 0 = .ok (.iload_n 1, 1) := by decide +kernel
theorem d_jdk_52_method_83_code_1 : decode jdk_52_method_83_code 1 = .ok (.aload_n 0, 1) := by decide +kernel
theorem d_jdk_52_method_83_code_10 : decode jdk_52_method_83_code 10 = .ok (.ireturn, 1) := by decide +kernel
theorem d_jdk_52_method_83_code_2 : decode jdk_52_method_83_code 2 = .ok (.invokestatic 67, 3) := by decide +kernel
theorem d_jdk_52_method_83_code_5 : decode jdk_52_method_83_code 5 = .ok (.aload_n 0, 1) := by decide +kernel
theorem d_jdk_52_method_83_code_6 : decode jdk_52_method_83_code 6 = .ok (.iload_n 1, 1) := by decide +kernel
theorem d_jdk_52_method_83_code_7 : decode jdk_52_method_83_code 7 = .ok (.invokestatic 71, 3) := by decide +kernel
theorem d_jdk_52_method_91_code_0 : decode jdk_52_method_91_code 0 = .ok (.iload_n 0, 1) := by decide +kernel
theorem d_jdk_52_method_91_code_1 : decode jdk_52_method_91_code 1 = .ok (.aload_n 1, 1) := by decide +kernel
theorem d_jdk_52_method_91_code_2 : decode jdk_52_method_91_code 2 = .ok (.invokestatic 48, 3) := by decide +kernel
theorem d_jdk_52_method_91_code_5 : decode jdk_52_method_91_code 5 = .ok (.invokestatic 414, 3) := by decide +kernel
theorem d_jdk_52_method_91_code_8 : decode jdk_52_method_91_code 8 = .ok (.return_, 1) := by decide +kernel
theorem d_method_2_code_0 : decode method_2_code 0 = .ok (.iload_n 0, 1) := by decide +kernel
theorem d_method_2_code_1 : decode method_2_code 1 = .ok (.iconst 1, 1) := by decide +kernel
theorem d_method_2_code_10 : decode method_2_code 10 = .ok (.iushr, 1) := by decide +kernel
theorem d_method_2_code_11 : decode method_2_code 11 = .ok (.bipush 10, 2) := by decide +kernel
theorem d_method_2_code_13 : decode method_2_code 13 = .ok (.irem, 1) := by decide +kernel
theorem d_method_2_code_14 : decode method_2_code 14 = .ok (.iadd, 1) := by decide +kernel
theorem d_method_2_code_15 : decode method_2_code 15 = .ok (.i2c, 1) := by decide +kernel
theorem d_method_2_code_16 : decode method_2_code 16 = .ok (.ireturn, 1) := by decide +kernel
theorem d_method_2_code_17 : decode method_2_code 17 = .ok (.iload_n 0, 1) := by decide +kernel
theorem d_method_2_code_18 : decode method_2_code 18 = .ok (.iconst 1, 1) := by decide +kernel
theorem d_method_2_code_19 : decode method_2_code 19 = .ok (.iushr, 1) := by decide +kernel
theorem d_method_2_code_2 : decode method_2_code 2 = .ok (.iand, 1) := by decide +kernel
theorem d_method_2_code_20 : decode method_2_code 20 = .ok (.ldc 7, 2) := by decide +kernel
theorem d_method_2_code_22 : decode method_2_code 22 = .ok (.iand, 1) := by decide +kernel
theorem d_method_2_code_23 : decode method_2_code 23 = .ok (.i2c, 1) := by decide +kernel
theorem d_method_2_code_24 : decode method_2_code 24 = .ok (.ireturn, 1) := by decide +kernel
theorem d_method_2_code_3 : decode method_2_code 3 = .ok (.ifCond .ne 14, 3) := by decide +kernel
theorem d_method_2_code_6 : decode method_2_code 6 = .ok (.bipush 48, 2) := by decide +kernel
theorem d_method_2_code_8 : decode method_2_code 8 = .ok (.iload_n 0, 1) := by decide +kernel
theorem d_method_2_code_9 : decode method_2_code 9 = .ok (.iconst 1, 1) := by decide +kernel
theorem d_method_3_code_0 : decode method_3_code 0 = .ok (.iload_n 0, 1) := by decide +kernel
theorem d_method_3_code_1 : decode method_3_code 1 = .ok (.bipush 48, 2) := by decide +kernel
theorem d_method_3_code_12 : decode method_3_code 12 = .ok (.iload_n 0, 1) := by decide +kernel
theorem d_method_3_code_13 : decode method_3_code 13 = .ok (.bipush 48, 2) := by decide +kernel
theorem d_method_3_code_15 : decode method_3_code 15 = .ok (.isub, 1) := by decide +kernel
theorem d_method_3_code_16 : decode method_3_code 16 = .ok (.ireturn, 1) := by decide +kernel
theorem d_method_3_code_17 : decode method_3_code 17 = .ok (.iconst (-1), 1) := by decide +kernel
theorem d_method_3_code_18 : decode method_3_code 18 = .ok (.ireturn, 1) := by decide +kernel
theorem d_method_3_code_3 : decode method_3_code 3 = .ok (.if_icmp .lt 14, 3) := by decide +kernel
theorem d_method_3_code_6 : decode method_3_code 6 = .ok (.iload_n 0, 1) := by decide +kernel
theorem d_method_3_code_7 : decode method_3_code 7 = .ok (.bipush 57, 2) := by decide +kernel
theorem d_method_3_code_9 : decode method_3_code 9 = .ok (.if_icmp .gt 8, 3) := by decide +kernel
theorem d_method_4_code_0 : decode method_4_code 0 = .ok (.iload_n 0, 1) := by decide +kernel
theorem d_method_4_code_1 : decode method_4_code 1 = .ok (.ifCond .ne 5, 3) := by decide +kernel
theorem d_method_4_code_11 : decode method_4_code 11 = .ok (.ldc2_w 8, 3) := by decide +kernel
theorem d_method_4_code_14 : decode method_4_code 14 = .ok (.lreturn, 1) := by decide +kernel
theorem d_method_4_code_15 : decode method_4_code 15 = .ok (.iload_n 0, 1) := by decide +kernel
theorem d_method_4_code_16 : decode method_4_code 16 = .ok (.iconst 2, 1) := by decide +kernel
theorem d_method_4_code_17 : decode method_4_code 17 = .ok (.if_icmp .ne 7, 3) := by decide +kernel
theorem d_method_4_code_20 : decode method_4_code 20 = .ok (.ldc2_w 10, 3) := by decide +kernel
theorem d_method_4_code_23 : decode method_4_code 23 = .ok (.lreturn, 1) := by decide +kernel
theorem d_method_4_code_24 : decode method_4_code 24 = .ok (.iload_n 0, 1) := by decide +kernel
theorem d_method_4_code_25 : decode method_4_code 25 = .ok (.iconst 3, 1) := by decide +kernel
theorem d_method_4_code_26 : decode method_4_code 26 = .ok (.if_icmp .ne 7, 3) := by decide +kernel
theorem d_method_4_code_29 : decode method_4_code 29 = .ok (.ldc2_w 12, 3) := by decide +kernel
theorem d_method_4_code_32 : decode method_4_code 32 = .ok (.lreturn, 1) := by decide +kernel
theorem d_method_4_code_33 : decode method_4_code 33 = .ok (.iload_n 0, 1) := by decide +kernel
theorem d_method_4_code_34 : decode method_4_code 34 = .ok (.iconst 4, 1) := by decide +kernel
theorem d_method_4_code_35 : decode method_4_code 35 = .ok (.if_icmp .ne 7, 3) := by decide +kernel
theorem d_method_4_code_38 : decode method_4_code 38 = .ok (.ldc2_w 14, 3) := by decide +kernel
theorem d_method_4_code_4 : decode method_4_code 4 = .ok (.lconst 1, 1) := by decide +kernel
theorem d_method_4_code_41 : decode method_4_code 41 = .ok (.lreturn, 1) := by decide +kernel
theorem d_method_4_code_42 : decode method_4_code 42 = .ok (.ldc2_w 16, 3) := by decide +kernel
theorem d_method_4_code_45 : decode method_4_code 45 = .ok (.lreturn, 1) := by decide +kernel
theorem d_method_4_code_5 : decode method_4_code 5 = .ok (.lreturn, 1) := by decide +kernel
theorem d_method_4_code_6 : decode method_4_code 6 = .ok (.iload_n 0, 1) := by decide +kernel
theorem d_method_4_code_7 : decode method_4_code 7 = .ok (.iconst 1, 1) := by decide +kernel
theorem d_method_4_code_8 : decode method_4_code 8 = .ok (.if_icmp .ne 7, 3) := by decide +kernel
theorem d_method_5_code_0 : decode method_5_code 0 = .ok (.iload_n 1, 1) := by decide +kernel
theorem d_method_5_code_1 : decode method_5_code 1 = .ok (.iload_n 2, 1) := by decide +kernel
theorem d_method_5_code_10 : decode method_5_code 10 = .ok (.lconst 0, 1) := by decide +kernel
theorem d_method_5_code_11 : decode method_5_code 11 = .ok (.lreturn, 1) := by decide +kernel
theorem d_method_5_code_12 : decode method_5_code 12 = .ok (.iload_n 0, 1) := by decide +kernel
theorem d_method_5_code_13 : decode method_5_code 13 = .ok (.invokestatic 18, 3) := by decide +kernel
theorem d_method_5_code_16 : decode method_5_code 16 = .ok (.istore 4, 2) := by decide +kernel
theorem d_method_5_code_18 : decode method_5_code 18 = .ok (.iload 4, 2) := by decide +kernel
theorem d_method_5_code_2 : decode method_5_code 2 = .ok (.if_icmp .lt 8, 3) := by decide +kernel
theorem d_method_5_code_20 : decode method_5_code 20 = .ok (.ifCond .ge 7, 3) := by decide +kernel
theorem d_method_5_code_23 : decode method_5_code 23 = .ok (.ldc2_w 24, 3) := by decide +kernel
theorem d_method_5_code_26 : decode method_5_code 26 = .ok (.lreturn, 1) := by decide +kernel
theorem d_method_5_code_27 : decode method_5_code 27 = .ok (.iload 4, 2) := by decide +kernel
theorem d_method_5_code_29 : decode method_5_code 29 = .ok (.i2l, 1) := by decide +kernel
theorem d_method_5_code_30 : decode method_5_code 30 = .ok (.iload_n 3, 1) := by decide +kernel
theorem d_method_5_code_31 : decode method_5_code 31 = .ok (.iconst 1, 1) := by decide +kernel
theorem d_method_5_code_32 : decode method_5_code 32 = .ok (.isub, 1) := by decide +kernel
theorem d_method_5_code_33 : decode method_5_code 33 = .ok (.iload_n 1, 1) := by decide +kernel
theorem d_method_5_code_34 : decode method_5_code 34 = .ok (.isub, 1) := by decide +kernel
theorem d_method_5_code_35 : decode method_5_code 35 = .ok (.invokestatic 26, 3) := by decide +kernel
theorem d_method_5_code_38 : decode method_5_code 38 = .ok (.lmul, 1) := by decide +kernel
theorem d_method_5_code_39 : decode method_5_code 39 = .ok (.lreturn, 1) := by decide +kernel
theorem d_method_5_code_5 : decode method_5_code 5 = .ok (.iload_n 1, 1) := by decide +kernel
theorem d_method_5_code_6 : decode method_5_code 6 = .ok (.iload_n 3, 1) := by decide +kernel
theorem d_method_5_code_7 : decode method_5_code 7 = .ok (.if_icmp .lt 5, 3) := by decide +kernel
theorem d_prog_1_method_2_code_0 : decode prog_1_method_2_code 0 = .ok (.lconst 0, 1) := by decide +kernel
theorem d_prog_1_method_2_code_1 : decode prog_1_method_2_code 1 = .ok (.lstore_n 3, 1) := by decide +kernel
theorem d_prog_1_method_2_code_11 : decode prog_1_method_2_code 11 = .ok (.aload_n 0, 1) := by decide +kernel
theorem d_prog_1_method_2_code_12 : decode prog_1_method_2_code 12 = .ok (.iload 5, 2) := by decide +kernel
theorem d_prog_1_method_2_code_14 : decode prog_1_method_2_code 14 = .ok (.invokevirtual 7, 3) := by decide +kernel
theorem d_prog_1_method_2_code_17 : decode prog_1_method_2_code 17 = .ok (.istore 6, 2) := by decide +kernel
theorem d_prog_1_method_2_code_19 : decode prog_1_method_2_code 19 = .ok (.iload 6, 2) := by decide +kernel
theorem d_prog_1_method_2_code_2 : decode prog_1_method_2_code 2 = .ok (.iload_n 1, 1) := by decide +kernel
theorem d_prog_1_method_2_code_21 : decode prog_1_method_2_code 21 = .ok (.bipush 48, 2) := by decide +kernel
theorem d_prog_1_method_2_code_23 : decode prog_1_method_2_code 23 = .ok (.if_icmp .lt 10, 3) := by decide +kernel
theorem d_prog_1_method_2_code_26 : decode prog_1_method_2_code 26 = .ok (.iload 6, 2) := by decide +kernel
theorem d_prog_1_method_2_code_28 : decode prog_1_method_2_code 28 = .ok (.bipush 57, 2) := by decide +kernel
theorem d_prog_1_method_2_code_3 : decode prog_1_method_2_code 3 = .ok (.istore 5, 2) := by decide +kernel
theorem d_prog_1_method_2_code_30 : decode prog_1_method_2_code 30 = .ok (.if_icmp .le 7, 3) := by decide +kernel
theorem d_prog_1_method_2_code_33 : decode prog_1_method_2_code 33 = .ok (.ldc2_w 13, 3) := by decide +kernel
theorem d_prog_1_method_2_code_36 : decode prog_1_method_2_code 36 = .ok (.lreturn, 1) := by decide +kernel
theorem d_prog_1_method_2_code_37 : decode prog_1_method_2_code 37 = .ok (.lload_n 3, 1) := by decide +kernel
theorem d_prog_1_method_2_code_38 : decode prog_1_method_2_code 38 = .ok (.ldc2_w 15, 3) := by decide +kernel
theorem d_prog_1_method_2_code_41 : decode prog_1_method_2_code 41 = .ok (.lmul, 1) := by decide +kernel
theorem d_prog_1_method_2_code_42 : decode prog_1_method_2_code 42 = .ok (.iload 6, 2) := by decide +kernel
theorem d_prog_1_method_2_code_44 : decode prog_1_method_2_code 44 = .ok (.bipush 48, 2) := by decide +kernel
theorem d_prog_1_method_2_code_46 : decode prog_1_method_2_code 46 = .ok (.isub, 1) := by decide +kernel
theorem d_prog_1_method_2_code_47 : decode prog_1_method_2_code 47 = .ok (.i2l, 1) := by decide +kernel
theorem d_prog_1_method_2_code_48 : decode prog_1_method_2_code 48 = .ok (.ladd, 1) := by decide +kernel
theorem d_prog_1_method_2_code_49 : decode prog_1_method_2_code 49 = .ok (.lstore_n 3, 1) := by decide +kernel
theorem d_prog_1_method_2_code_5 : decode prog_1_method_2_code 5 = .ok (.iload 5, 2) := by decide +kernel
theorem d_prog_1_method_2_code_50 : decode prog_1_method_2_code 50 = .ok (.iinc 5 1, 3) := by decide +kernel
theorem d_prog_1_method_2_code_53 : decode prog_1_method_2_code 53 = .ok (.goto (-48), 3) := by decide +kernel
theorem d_prog_1_method_2_code_56 : decode prog_1_method_2_code 56 = .ok (.lload_n 3, 1) := by decide +kernel
theorem d_prog_1_method_2_code_57 : decode prog_1_method_2_code 57 = .ok (.lreturn, 1) := by decide +kernel
theorem d_prog_1_method_2_code_7 : decode prog_1_method_2_code 7 = .ok (.iload_n 2, 1) := by decide +kernel
theorem d_prog_1_method_2_code_8 : decode prog_1_method_2_code 8 = .ok (.if_icmp .ge 48, 3) := by decide +kernel
def St (Z : State) (zc : Int32) (vfm : Value) : Prop := Sta Z Z.heap "java/lang/String" "COMPACT_STRINGS" "Z" (.int zc) ∧ ¬ zc = 0 ∧ Sta Z Z.heap "jdk/internal/util/Preconditions" "SIOOBE_FORMATTER" "Ljava/util/function/BiFunction;" vfm ∧ vfm.isRef = true ∧ Sta Z Z.heap "java/lang/StringUTF16" "$assertionsDisabled" "Z" (.int (1 : Int32)) ∧ Sta Z Z.heap "java/lang/StringUTF16" "HI_BYTE_SHIFT" "I" (.int (0 : Int32)) ∧ Sta Z Z.heap "java/lang/StringUTF16" "LO_BYTE_SHIFT" "I" (.int (8 : Int32))
theorem i8_i8 (x : Int32) : x.toInt8.toInt32.toInt8.toInt32 = x.toInt8.toInt32 := by simp
theorem rem7 (x : Int32) : 0 ≤ ((x &&& (2147483647 : Int32)) % (7 : Int32)).toInt ∧ ((x &&& (2147483647 : Int32)) % (7 : Int32)).toInt < 7 := by
  have h := c_mask x 2147483647 31 (by decide) (by decide)
  have r := (c_irem (x &&& (2147483647 : Int32)) 7 7 (by decide)).1 (by omega)
  omega
theorem sub7 {f : Int32} (hf : 0 ≤ f.toInt ∧ f.toInt < 7) : ((7 : Int32) - f).toInt = 7 - f.toInt := by
  have a := c_isub 7 f
  have b := rng32 ((7 : Int32) - f)
  have e : (7 : Int32).toInt = 7 := by decide
  rw [e] at a
  omega
theorem sub7_ne {f : Int32} (hf : 0 ≤ f.toInt ∧ f.toInt < 7) : ((7 : Int32) - f) ≠ 0 := fun q => by
  have a := sub7 hf
  rw [q] at a
  have e : (0 : Int32).toInt = 0 := by decide
  omega
theorem to_rng (x : Int32) {f : Int32} (hf : 0 ≤ f.toInt ∧ f.toInt < 7) : f.toInt ≤ (f + ((x &&& (2147483647 : Int32)) % ((7 : Int32) - f))).toInt ∧ (f + ((x &&& (2147483647 : Int32)) % ((7 : Int32) - f))).toInt ≤ 6 := by
  have h := c_mask x 2147483647 31 (by decide) (by decide)
  have s := sub7 hf
  have r := (c_irem (x &&& (2147483647 : Int32)) ((7 : Int32) - f) _ rfl).1 (by omega)
  have b := c_iadd f ((x &&& (2147483647 : Int32)) % ((7 : Int32) - f))
  have c := rng32 (f + ((x &&& (2147483647 : Int32)) % ((7 : Int32) - f)))
  rw [s] at r
  have m1 := Int.emod_nonneg (x &&& (2147483647 : Int32)).toInt (b := 7 - f.toInt) (by omega)
  have m2 := Int.emod_lt_of_pos (x &&& (2147483647 : Int32)).toInt (b := 7 - f.toInt) (by omega)
  omega
theorem nar_rng (x : Int32) : 0 ≤ (nar .char x).toInt ∧ (nar .char x).toInt ≤ 65535 := by
  have r := c_i2c x
  show 0 ≤ x.toUInt32.toUInt16.toUInt32.toInt32.toInt ∧ x.toUInt32.toUInt16.toUInt32.toInt32.toInt ≤ 65535
  omega
theorem nar_u {x : Int32} (h : 0 ≤ x.toInt ∧ x.toInt ≤ 65535) : nar .char x = x := by
  have r := c_i2c x
  apply Int32.toInt_inj.mp
  show x.toUInt32.toUInt16.toUInt32.toInt32.toInt = x.toInt
  omega
def lo8 (c : Int32) : Int32 := c.toInt8.toInt32
def hi8 (c : Int32) : Int32 := (c >>> ((8 : Int32) &&& 31)).toInt8.toInt32
theorem lo_eq (c : Int32) : (c >>> ((0 : Int32) &&& 31)).toInt8.toInt32.toInt8.toInt32 = lo8 c := by
  rw [i8_i8]
  have e : c >>> ((0 : Int32) &&& 31) = c := Int32.toInt_inj.mp (by have := c_ishr c 0 0 (by decide); omega)
  rw [e, lo8]
theorem hi_eq (c : Int32) : (c >>> ((8 : Int32) &&& 31)).toInt8.toInt32.toInt8.toInt32 = hi8 c := by rw [i8_i8, hi8]
theorem u16 {c : Int32} (h : 0 ≤ c.toInt ∧ c.toInt ≤ 65535) : nar .char (((lo8 c &&& (255 : Int32)) <<< ((0 : Int32) &&& 31)) ||| ((hi8 c &&& (255 : Int32)) <<< ((8 : Int32) &&& 31))) = c := by
  have m1 := c_mask (lo8 c) 255 8 (by decide) (by decide)
  have m2 := c_mask (hi8 c) 255 8 (by decide) (by decide)
  have l1 := c_ishl (lo8 c &&& (255 : Int32)) 0 0 (by decide)
  have l2 := c_ishl (hi8 c &&& (255 : Int32)) 8 8 (by decide)
  have b1 := c_i2b c
  have b2 := c_i2b (c >>> ((8 : Int32) &&& 31))
  have s2 := c_ishr c 8 8 (by decide)
  have r1 := rng32 ((lo8 c &&& (255 : Int32)) <<< ((0 : Int32) &&& 31))
  have r2 := rng32 ((hi8 c &&& (255 : Int32)) <<< ((8 : Int32) &&& 31))
  change ((lo8 c).toInt - _) % _ = 0 ∧ _ ≤ (lo8 c).toInt ∧ (lo8 c).toInt < _ at b1
  change ((hi8 c).toInt - _) % _ = 0 ∧ _ ≤ (hi8 c).toInt ∧ (hi8 c).toInt < _ at b2
  have o := c_or ((hi8 c &&& (255 : Int32)) <<< ((8 : Int32) &&& 31)) ((lo8 c &&& (255 : Int32)) <<< ((0 : Int32) &&& 31)) 8 (by decide) 256 (by decide) (by omega) (by omega) (by omega)
  rw [Int32.or_comm] at o
  have r3 := rng32 (((lo8 c &&& (255 : Int32)) <<< ((0 : Int32) &&& 31)) ||| ((hi8 c &&& (255 : Int32)) <<< ((8 : Int32) &&& 31)))
  have e : (((lo8 c &&& (255 : Int32)) <<< ((0 : Int32) &&& 31)) ||| ((hi8 c &&& (255 : Int32)) <<< ((8 : Int32) &&& 31))) = c := by
    apply Int32.toInt_inj.mp
    omega
  rw [e]; exact nar_u h
theorem l16 {c : Int32} (h : 0 ≤ c.toInt ∧ c.toInt ≤ 65535) (hl : ¬ (255 : Int32) < c) : nar .char (c.toInt8.toInt32 &&& (255 : Int32)) = c := by
  have m1 := c_mask c.toInt8.toInt32 255 8 (by decide) (by decide)
  have b1 := c_i2b c
  rw [Int32.lt_iff_toInt_lt] at hl
  have e1 : (255 : Int32).toInt = 255 := by decide
  have e : c.toInt8.toInt32 &&& (255 : Int32) = c := Int32.toInt_inj.mp (by omega)
  rw [e]; exact nar_u h
def sel (c0 c1 c2 c3 c4 c5 i : Int32) : Int32 := if i = 0 then c0 else if i = 1 then c1 else if i = 2 then c2 else if i = 3 then c3 else if i = 4 then c4 else c5
theorem sel_rng {c0 c1 c2 c3 c4 c5 : Int32} (h0 : 0 ≤ c0.toInt ∧ c0.toInt ≤ 65535) (h1 : 0 ≤ c1.toInt ∧ c1.toInt ≤ 65535) (h2 : 0 ≤ c2.toInt ∧ c2.toInt ≤ 65535) (h3 : 0 ≤ c3.toInt ∧ c3.toInt ≤ 65535) (h4 : 0 ≤ c4.toInt ∧ c4.toInt ≤ 65535) (h5 : 0 ≤ c5.toInt ∧ c5.toInt ≤ 65535) (i : Int32) : 0 ≤ (sel c0 c1 c2 c3 c4 c5 i).toInt ∧ (sel c0 c1 c2 c3 c4 c5 i).toInt ≤ 65535 := by
  unfold sel
  split
  · exact h0
  split
  · exact h1
  split
  · exact h2
  split
  · exact h3
  split
  · exact h4
  · exact h5
theorem range6 {z : Int32} (hz : 0 ≤ z.toInt ∧ z.toInt < 6) : z = 0 ∨ z = 1 ∨ z = 2 ∨ z = 3 ∨ z = 4 ∨ z = 5 := by
  have e : ∀ k : Int32, z.toInt = k.toInt → z = k := fun k q => Int32.toInt_inj.mp q
  have q : z.toInt = 0 ∨ z.toInt = 1 ∨ z.toInt = 2 ∨ z.toInt = 3 ∨ z.toInt = 4 ∨ z.toInt = 5 := by omega
  rcases q with q | q | q | q | q | q
  · exact Or.inl (e 0 q)
  · exact Or.inr (Or.inl (e 1 q))
  · exact Or.inr (Or.inr (Or.inl (e 2 q)))
  · exact Or.inr (Or.inr (Or.inr (Or.inl (e 3 q))))
  · exact Or.inr (Or.inr (Or.inr (Or.inr (Or.inl (e 4 q)))))
  · exact Or.inr (Or.inr (Or.inr (Or.inr (Or.inr (e 5 q)))))
theorem i6 {i : Int32} (h : 0 ≤ i.toInt ∧ i.toInt < 6) : ¬ i < 0 ∧ i < (6 : Int32) := by
  rw [Int32.lt_iff_toInt_lt, Int32.lt_iff_toInt_lt]
  have e0 : (0 : Int32).toInt = 0 := by decide
  have e8 : (6 : Int32).toInt = 6 := by decide
  omega
def dv (c : Int32) : Int32 := if c < (48 : Int32) then (-1 : Int32) else if (57 : Int32) < c then (-1 : Int32) else c - (48 : Int32)
def p10 (e : Int32) : Int64 := if e = 0 then 1 else if e = 1 then 10 else if e = 2 then 100 else if e = 3 then 1000 else if e = 4 then 10000 else 100000
def tm (c k f t : Int32) : Int64 := if k < f then (0 : Int64) else if k < t then (if dv c < (0 : Int32) then (-1 : Int64) else (dv c).toInt64 * p10 (t - (1 : Int32) - k)) else (0 : Int64)
def rdF (g : Int32 → Int32) (to : Int32) : Nat → Int32 → Int64 → Int64
  | 0, _, acc => acc
  | n + 1, i, acc => if i < to then (if g i < (48 : Int32) then (-1 : Int64) else if (57 : Int32) < g i then (-1 : Int64) else rdF g to n (i + (1 : Int32)) (acc * (10 : Int64) + (g i - (48 : Int32)).toInt64)) else acc
theorem plus1 {i : Int32} {k : Int} (h : i.toInt = k) (hk : 0 ≤ k ∧ k < 100) : (i + (1 : Int32)).toInt = k + 1 := by
  have a := c_iadd i 1
  have b := rng32 (i + 1)
  have e1 : (1 : Int32).toInt = 1 := by decide
  rw [e1] at a
  omega

--@C pick
def Q_pick (Z : State) (zc : Int32) (vfm : Value) (p1 : Int32) (h0 : Heap) (n0 : Nat) (v : Option Value) (h : Heap) (L : List Loc) : Prop := ∃ (v1 : Int32), v = some (.int v1) ∧ Fr n0 L ∧ h = h0 ∧ (0 ≤ v1.toInt ∧ v1.toInt ≤ 65535)
set_option maxRecDepth 65536 in
set_option maxHeartbeats 40000000 in
theorem rm_pick (l : Launch) (Z : State) (a0 : Array Value) (hw : ∀ d ∈ tables_1, d.before a0 Z = true) (zc : Int32) (vfm : Value) (p1 : Int32) (h0 : Heap) (n0 : Nat) (Z0 : n0 ≤ h0.size) (hSt : St Z zc vfm) (hO : Old Z n0 h0) :
    CN l Z ({ cls := "com/example/sigyn/sigyn/DigitsReadPinLaw", name := "pick", desc := "(I)C" } : Jvm.MethodName) [(Jvm.Cond.code ({ cls := "com/example/sigyn/sigyn/DigitsReadPinLaw", name := "pick", desc := "(I)C" } : Jvm.MethodName) method_2_code (1 : Nat) (Option.some Jvm.ClassFile.FieldType.char))] ({ frames := 0, cells := 0, slots := 0, locals := 0 } : Room) #[(.int p1)] h0 (Q_pick Z zc vfm p1 h0 n0) := by
  refine CN.of (L0 := #[vI p1]) (plainFor_of_name pn_0) (fun m => by first | (simp [entryFrame, mkF, argsToLocals, Value.category]; done) | rfl) ?_
  intro p e s m below meth c s₁ hx hby hml hret hlk hZ hown hnm X0 e0
  have N0 := Fr.nil n0
  have KP0 := Keep.refl h0 []
  have hSt_ := hSt
  obtain ⟨S_cs, n_cs, S_fm, r_fm, S_ad, S_hi, S_lo⟩ := hSt_
  show Go p e below _ (s₁.setTop (mkF m 0 #[vI p1] []))
  refine Go.step (fun _ k => XS.iloadN X0.here hx rfl (hb hby d_method_2_code_0) rfl  k) ?_
  refine Go.step (fun _ k => XS.iconst X0.here hx rfl (hb hby d_method_2_code_1) k) ?_
  show Go p e below _ (s₁.setTop (mkF m 2 #[vI p1] [(.int (1 : Int32)), (.int p1)]))
  refine Go.step (fun _ k => XS.iand X0.here hx rfl (hb hby d_method_2_code_2) rfl k) ?_
  show Go p e below _ (s₁.setTop (mkF m 3 #[vI p1] [(.int (p1 &&& (1 : Int32)))]))
  by_cases h1 : (p1 &&& (1 : Int32)) = (0 : Int32)
  · skip
    refine Go.step (fun _ k => XS.ifNo X0.here hx rfl (hb hby d_method_2_code_3) rfl ((if0 _ _).trans (teq h1).2) k) ?_
    show Go p e below _ (s₁.setTop (mkF m 6 #[vI p1] []))
    refine Go.step (fun _ k => XS.bipush X0.here hx rfl (hb hby d_method_2_code_6) k) ?_
    refine Go.step (fun _ k => XS.iloadN X0.here hx rfl (hb hby d_method_2_code_8) rfl  k) ?_
    refine Go.step (fun _ k => XS.iconst X0.here hx rfl (hb hby d_method_2_code_9) k) ?_
    show Go p e below _ (s₁.setTop (mkF m 10 #[vI p1] [(.int (1 : Int32)), (.int p1), (.int (48 : Int32))]))
    refine Go.step (fun _ k => XS.iushr X0.here hx rfl (hb hby d_method_2_code_10) rfl k) ?_
    show Go p e below _ (s₁.setTop (mkF m 11 #[vI p1] [(.int ((p1.toUInt32 >>> ((1 : Int32) &&& 31).toUInt32).toInt32)), (.int (48 : Int32))]))
    refine Go.step (fun _ k => XS.bipush X0.here hx rfl (hb hby d_method_2_code_11) k) ?_
    show Go p e below _ (s₁.setTop (mkF m 13 #[vI p1] [(.int (10 : Int32)), (.int ((p1.toUInt32 >>> ((1 : Int32) &&& 31).toUInt32).toInt32)), (.int (48 : Int32))]))
    refine Go.step (fun _ k => iremM X0 hx rfl (hb hby d_method_2_code_13) rfl (by decide) k) ?_
    show Go p e below _ (s₁.setTop (mkF m 14 #[vI p1] [(.int (((p1.toUInt32 >>> ((1 : Int32) &&& 31).toUInt32).toInt32) % (10 : Int32))), (.int (48 : Int32))]))
    refine Go.step (fun _ k => XS.iadd X0.here hx rfl (hb hby d_method_2_code_14) rfl k) ?_
    show Go p e below _ (s₁.setTop (mkF m 15 #[vI p1] [(.int ((48 : Int32) + (((p1.toUInt32 >>> ((1 : Int32) &&& 31).toUInt32).toInt32) % (10 : Int32))))]))
    refine Go.step (fun _ k => XS.i2c X0.here hx rfl (hb hby d_method_2_code_15) rfl k) ?_
    show Go p e below _ (s₁.setTop (mkF m 16 #[vI p1] [(.int (nar .char ((48 : Int32) + (((p1.toUInt32 >>> ((1 : Int32) &&& 31).toUInt32).toInt32) % (10 : Int32)))))]))
    exact Go.retV X0 hx hlk hret (congrArg Value.int (nar_u (nar_rng _))) (Or.inl ⟨rfl, Or.inr (Or.inr (Or.inr (Or.inl rfl))), _, rfl⟩) (hb hby d_method_2_code_16) (by decide) (by decide) (by rw [e0]; exact ⟨(nar .char ((48 : Int32) + (((p1.toUInt32 >>> ((1 : Int32) &&& 31).toUInt32).toInt32) % (10 : Int32)))), rfl, N0, rfl, (nar_rng _)⟩)
  · skip
    refine Go.step (fun _ k => XS.ifYes X0.here hx rfl (pc0 := 3) (pc' := 17) rfl (hb hby d_method_2_code_3) rfl ((if0 _ _).trans (feq h1).2) (by decide) (by decide) k) ?_
    show Go p e below _ (s₁.setTop (mkF m 17 #[vI p1] []))
    refine Go.step (fun _ k => XS.iloadN X0.here hx rfl (hb hby d_method_2_code_17) rfl  k) ?_
    refine Go.step (fun _ k => XS.iconst X0.here hx rfl (hb hby d_method_2_code_18) k) ?_
    show Go p e below _ (s₁.setTop (mkF m 19 #[vI p1] [(.int (1 : Int32)), (.int p1)]))
    refine Go.step (fun _ k => XS.iushr X0.here hx rfl (hb hby d_method_2_code_19) rfl k) ?_
    show Go p e below _ (s₁.setTop (mkF m 20 #[vI p1] [(.int ((p1.toUInt32 >>> ((1 : Int32) &&& 31).toUInt32).toInt32))]))
    refine Go.step (fun _ k => X0.ldcInt hx hown (mvT hZ (wd_5 hw)) (g := (mkF m 20 #[vI p1] [(.int ((p1.toUInt32 >>> ((1 : Int32) &&& 31).toUInt32).toInt32))])) rfl (hb hby d_method_2_code_20) _ k) ?_
    show Go p e below _ (s₁.setTop (mkF m 22 #[vI p1] [(.int (65535 : Int32)), (.int ((p1.toUInt32 >>> ((1 : Int32) &&& 31).toUInt32).toInt32))]))
    refine Go.step (fun _ k => XS.iand X0.here hx rfl (hb hby d_method_2_code_22) rfl k) ?_
    show Go p e below _ (s₁.setTop (mkF m 23 #[vI p1] [(.int (((p1.toUInt32 >>> ((1 : Int32) &&& 31).toUInt32).toInt32) &&& (65535 : Int32)))]))
    refine Go.step (fun _ k => XS.i2c X0.here hx rfl (hb hby d_method_2_code_23) rfl k) ?_
    show Go p e below _ (s₁.setTop (mkF m 24 #[vI p1] [(.int (nar .char (((p1.toUInt32 >>> ((1 : Int32) &&& 31).toUInt32).toInt32) &&& (65535 : Int32))))]))
    exact Go.retV X0 hx hlk hret (congrArg Value.int (nar_u (nar_rng _))) (Or.inl ⟨rfl, Or.inr (Or.inr (Or.inr (Or.inl rfl))), _, rfl⟩) (hb hby d_method_2_code_24) (by decide) (by decide) (by rw [e0]; exact ⟨(nar .char (((p1.toUInt32 >>> ((1 : Int32) &&& 31).toUInt32).toInt32) &&& (65535 : Int32))), rfl, N0, rfl, (nar_rng _)⟩)
--@E
--@C c5L
def Q_c5L (Z : State) (zc : Int32) (vfm : Value) (a1 : Addr) (k1 : ClassId) (a2 : Addr) (k2 : ClassId) (c0 : Int32) (c1 : Int32) (c2 : Int32) (c3 : Int32) (c4 : Int32) (c5 : Int32) (h0 : Heap) (n0 : Nat) (v : Option Value) (h : Heap) (L : List Loc) : Prop := v = some (.int (6 : Int32)) ∧ Fr n0 L ∧ Keep h0 h [a2] ∧ Arv Z h a2 k2 .byte (6 : Int32) [(.int c0.toInt8.toInt32), (.int c1.toInt8.toInt32), (.int c2.toInt8.toInt32), (.int c3.toInt8.toInt32), (.int c4.toInt8.toInt32), (.int c5.toInt8.toInt32)] (.int (0 : Int32))
set_option maxRecDepth 65536 in
set_option maxHeartbeats 40000000 in
theorem rm_c5L (l : Launch) (Z : State) (a0 : Array Value) (hw : ∀ d ∈ tables_1, d.before a0 Z = true) (zc : Int32) (vfm : Value) (a1 : Addr) (k1 : ClassId) (a2 : Addr) (k2 : ClassId) (c0 : Int32) (c1 : Int32) (c2 : Int32) (c3 : Int32) (c4 : Int32) (c5 : Int32) (h0 : Heap) (n0 : Nat) (Z0 : n0 ≤ h0.size) (A_a1 : Arv Z h0 a1 k1 .char (6 : Int32) [(.int c0), (.int c1), (.int c2), (.int c3), (.int c4), (.int c5)] (.int (0 : Int32))) (A_a2 : Arv Z h0 a2 k2 .byte (6 : Int32) [(.int (0 : Int32)), (.int (0 : Int32)), (.int (0 : Int32)), (.int (0 : Int32)), (.int (0 : Int32)), (.int (0 : Int32))] (.int (0 : Int32))) (g_a2 : n0 ≤ a2) (n12 : (a1 ≠ a2)) (l_c0 : (¬ (255 : Int32) < c0)) (l_c1 : (¬ (255 : Int32) < c1)) (l_c2 : (¬ (255 : Int32) < c2)) (l_c3 : (¬ (255 : Int32) < c3)) (l_c4 : (¬ (255 : Int32) < c4)) (l_c5 : (¬ (255 : Int32) < c5)) (hSt : St Z zc vfm) (hO : Old Z n0 h0) :
    CN l Z ({ cls := "java/lang/StringUTF16", name := "compress", desc := "([CI[BII)I" } : Jvm.MethodName) [(Jvm.Cond.code ({ cls := "java/lang/StringUTF16", name := "compress", desc := "([CI[BII)I" } : Jvm.MethodName) jdk_52_method_21_code (7 : Nat) (Option.some Jvm.ClassFile.FieldType.int))] ({ frames := 0, cells := 0, slots := 0, locals := 0 } : Room) #[(.ref a1), (.int (0 : Int32)), (.ref a2), (.int (0 : Int32)), (.int (6 : Int32))] h0 (Q_c5L Z zc vfm a1 k1 a2 k2 c0 c1 c2 c3 c4 c5 h0 n0) := by
  refine CN.of (L0 := #[vR a1, vI 0, vR a2, vI 0, vI 6, vU, vU]) (plainFor_of_name pn_1) (fun m => by first | (simp [entryFrame, mkF, argsToLocals, Value.category]; done) | rfl) ?_
  intro p e s m below meth c s₁ hx hby hml hret hlk hZ hown hnm X0 e0
  have N0 := Fr.nil n0
  have KP0 := Keep.refl h0 [a2]
  have hSt_ := hSt
  obtain ⟨S_cs, n_cs, S_fm, r_fm, S_ad, S_hi, S_lo⟩ := hSt_
  show Go p e below _ (s₁.setTop (mkF m 0 #[vR a1, vI 0, vR a2, vI 0, vI 6, vU, vU] []))
  refine Go.step (fun _ k => XS.iconst X0.here hx rfl (hb hby d_jdk_52_method_21_code_0) k) ?_
  show Go p e below _ (s₁.setTop (mkF m 1 #[vR a1, vI 0, vR a2, vI 0, vI 6, vU, vU] [(.int (0 : Int32))]))
  refine Go.step (fun _ k => XS.istore X0.here hx rfl (hb hby d_jdk_52_method_21_code_1) rfl (l' := #[vR a1, vI 0, vR a2, vI 0, vI 6, vI 0, vU]) rfl k) ?_
  show Go p e below _ (s₁.setTop (mkF m 3 #[vR a1, vI 0, vR a2, vI 0, vI 6, vI 0, vU] []))
  refine Go.step (fun _ k => XS.iload X0.here hx rfl (hb hby d_jdk_52_method_21_code_3) rfl  k) ?_
  refine Go.step (fun _ k => XS.iload X0.here hx rfl (hb hby d_jdk_52_method_21_code_5) rfl  k) ?_
  show Go p e below _ (s₁.setTop (mkF m 7 #[vR a1, vI 0, vR a2, vI 0, vI 6, vI 0, vU] [(.int (6 : Int32)), (.int (0 : Int32))]))
  refine Go.step (fun _ k => XS.icmpNo X0.here hx rfl (hb hby d_jdk_52_method_21_code_7) rfl (tlt ((by decide) : (0 : Int32) < (6 : Int32))).2.1 k) ?_
  show Go p e below _ (s₁.setTop (mkF m 10 #[vR a1, vI 0, vR a2, vI 0, vI 6, vI 0, vU] []))
  refine Go.step (fun _ k => XS.aloadN X0.here hx rfl (hb hby d_jdk_52_method_21_code_10) rfl rfl k) ?_
  refine Go.step (fun _ k => XS.iloadN X0.here hx rfl (hb hby d_jdk_52_method_21_code_11) rfl  k) ?_
  show Go p e below _ (s₁.setTop (mkF m 12 #[vR a1, vI 0, vR a2, vI 0, vI 6, vI 0, vU] [(.int (0 : Int32)), (.ref a1)]))
  have cp2 := A_a1
  obtain ⟨cl_1, Ar_1, -, Sz_1, -, Hs_1, -⟩ := cp2
  have hin_1 : ¬ ((0 : Int32) < 0 ∨ cl_1.slots.size ≤ ((0 : Int32)).toNatClampNeg) := (inb_of Sz_1 ⟨by decide, by decide⟩)
  have hat_1 : cl_1.slots[((0 : Int32)).toNatClampNeg]? = some (.int c0) := (Hs_1.at (inb_of Sz_1 ⟨by decide, by decide⟩) rfl)
  refine Go.step (fun _ k => X0.caload hx (j := (0 : Int32)) (v := (.int c0)) (by rw [e0]; exact Ar_1.1) (State.isArrayOf_alike hZ.alike Ar_1.2.1) Ar_1.2.2 hin_1 hat_1 (g := (mkF m 12 #[vR a1, vI 0, vR a2, vI 0, vI 6, vI 0, vU] [(.int (0 : Int32)), (.ref a1)])) rfl rfl (hb hby d_jdk_52_method_21_code_12) _ k) ?_
  show Go p e below _ (s₁.setTop (mkF m 13 #[vR a1, vI 0, vR a2, vI 0, vI 6, vI 0, vU] [(.int c0)]))
  refine Go.step (fun _ k => XS.istore X0.here hx rfl (hb hby d_jdk_52_method_21_code_13) rfl (l' := #[vR a1, vI 0, vR a2, vI 0, vI 6, vI 0, vI c0]) rfl k) ?_
  show Go p e below _ (s₁.setTop (mkF m 15 #[vR a1, vI 0, vR a2, vI 0, vI 6, vI 0, vI c0] []))
  refine Go.step (fun _ k => XS.iload X0.here hx rfl (hb hby d_jdk_52_method_21_code_15) rfl  k) ?_
  refine Go.step (fun _ k => XS.sipush X0.here hx rfl (hb hby d_jdk_52_method_21_code_17) k) ?_
  show Go p e below _ (s₁.setTop (mkF m 20 #[vR a1, vI 0, vR a2, vI 0, vI 6, vI 0, vI c0] [(.int (255 : Int32)), (.int c0)]))
  refine Go.step (fun _ k => XS.icmpYes X0.here hx rfl (pc0 := 20) (pc' := 26) rfl (hb hby d_jdk_52_method_21_code_20) rfl (flt (l_c0 : ¬ ((255 : Int32) < c0))).2.2.2 (by decide) (by decide) k) ?_
  show Go p e below _ (s₁.setTop (mkF m 26 #[vR a1, vI 0, vR a2, vI 0, vI 6, vI 0, vI c0] []))
  refine Go.step (fun _ k => XS.aloadN X0.here hx rfl (hb hby d_jdk_52_method_21_code_26) rfl rfl k) ?_
  refine Go.step (fun _ k => XS.iloadN X0.here hx rfl (hb hby d_jdk_52_method_21_code_27) rfl  k) ?_
  refine Go.step (fun _ k => XS.iload X0.here hx rfl (hb hby d_jdk_52_method_21_code_28) rfl  k) ?_
  show Go p e below _ (s₁.setTop (mkF m 30 #[vR a1, vI 0, vR a2, vI 0, vI 6, vI 0, vI c0] [(.int c0), (.int (0 : Int32)), (.ref a2)]))
  refine Go.step (fun _ k => XS.i2b X0.here hx rfl (hb hby d_jdk_52_method_21_code_30) rfl k) ?_
  show Go p e below _ (s₁.setTop (mkF m 31 #[vR a1, vI 0, vR a2, vI 0, vI 6, vI 0, vI c0] [(.int c0.toInt8.toInt32), (.int (0 : Int32)), (.ref a2)]))
  have cp4 := A_a2
  obtain ⟨cl_3, Ar_3, ck_3, Sz_3, Ng_3, Hs_3, Gs_3⟩ := cp4
  have hin_3 : ¬ ((0 : Int32) < 0 ∨ cl_3.slots.size ≤ ((0 : Int32)).toNatClampNeg) := inb_of Sz_3 ⟨by decide, by decide⟩
  obtain ⟨T_3, h_3, X_3, e_3, W_3, st_3⟩ := stB X0 hx hZ e0 Ar_3 (j := (0 : Int32)) hin_3 (g := (mkF m 31 #[vR a1, vI 0, vR a2, vI 0, vI 6, vI 0, vI c0] [(.int c0.toInt8.toInt32), (.int (0 : Int32)), (.ref a2)])) rfl rfl (hb hby d_jdk_52_method_21_code_31)
  refine Go.step st_3 ?_
  have N_3 := Fr.snoc X_3 N0 g_a2
  have le_3 : h0.size ≤ h_3.size := Nat.le_of_eq W_3.size.symm
  have KP_3 := KP0.wr W_3 (Or.inl (List.mem_of_getElem? (i := 0) rfl))
  have O_3 := hO.wr W_3 g_a2
  have V_3 : Arv Z h_3 a2 k2 .byte (6 : Int32) [(.int c0.toInt8.toInt32), (.int (0 : Int32)), (.int (0 : Int32)), (.int (0 : Int32)), (.int (0 : Int32)), (.int (0 : Int32))] (.int (0 : Int32)) := by
    have q := Arv.set Ar_3 ck_3 Sz_3 Ng_3 Hs_3 Gs_3 (fits_nar_byte _) W_3 0 rfl (Nat.le_of_ble_eq_true rfl)
    rw [i8_i8] at q; exact q
  show Go p e below _ (T_3.setTop (mkF m 32 #[vR a1, vI 0, vR a2, vI 0, vI 6, vI 0, vI c0] []))
  refine Go.step (fun _ k => XS.iinc X_3.here hx rfl (hb hby d_jdk_52_method_21_code_32) rfl (l' := #[vR a1, vI ((0 : Int32) + (1 : Int32)), vR a2, vI 0, vI 6, vI 0, vI c0]) rfl k) ?_
  show Go p e below _ (T_3.setTop (mkF m 35 #[vR a1, vI ((0 : Int32) + (1 : Int32)), vR a2, vI 0, vI 6, vI 0, vI c0] []))
  rw [show ((0 : Int32) + (1 : Int32)) = (1 : Int32) from by decide]
  show Go p e below _ (T_3.setTop (mkF m 35 #[vR a1, vI 1, vR a2, vI 0, vI 6, vI 0, vI c0] []))
  refine Go.step (fun _ k => XS.iinc X_3.here hx rfl (hb hby d_jdk_52_method_21_code_35) rfl (l' := #[vR a1, vI 1, vR a2, vI ((0 : Int32) + (1 : Int32)), vI 6, vI 0, vI c0]) rfl k) ?_
  show Go p e below _ (T_3.setTop (mkF m 38 #[vR a1, vI 1, vR a2, vI ((0 : Int32) + (1 : Int32)), vI 6, vI 0, vI c0] []))
  rw [show ((0 : Int32) + (1 : Int32)) = (1 : Int32) from by decide]
  show Go p e below _ (T_3.setTop (mkF m 38 #[vR a1, vI 1, vR a2, vI 1, vI 6, vI 0, vI c0] []))
  refine Go.step (fun _ k => XS.iinc X_3.here hx rfl (hb hby d_jdk_52_method_21_code_38) rfl (l' := #[vR a1, vI 1, vR a2, vI 1, vI 6, vI ((0 : Int32) + (1 : Int32)), vI c0]) rfl k) ?_
  show Go p e below _ (T_3.setTop (mkF m 41 #[vR a1, vI 1, vR a2, vI 1, vI 6, vI ((0 : Int32) + (1 : Int32)), vI c0] []))
  rw [show ((0 : Int32) + (1 : Int32)) = (1 : Int32) from by decide]
  show Go p e below _ (T_3.setTop (mkF m 41 #[vR a1, vI 1, vR a2, vI 1, vI 6, vI 1, vI c0] []))
  refine Go.step (fun _ k => XS.goto X_3.here hx rfl (pc0 := 41) (pc' := 3) rfl (hb hby d_jdk_52_method_21_code_41) (by decide) (by decide) k) ?_
  show Go p e below _ (T_3.setTop (mkF m 3 #[vR a1, vI 1, vR a2, vI 1, vI 6, vI 1, vI c0] []))
  refine Go.step (fun _ k => XS.iload X_3.here hx rfl (hb hby d_jdk_52_method_21_code_3) rfl  k) ?_
  refine Go.step (fun _ k => XS.iload X_3.here hx rfl (hb hby d_jdk_52_method_21_code_5) rfl  k) ?_
  show Go p e below _ (T_3.setTop (mkF m 7 #[vR a1, vI 1, vR a2, vI 1, vI 6, vI 1, vI c0] [(.int (6 : Int32)), (.int (1 : Int32))]))
  refine Go.step (fun _ k => XS.icmpNo X_3.here hx rfl (hb hby d_jdk_52_method_21_code_7) rfl (tlt ((by decide) : (1 : Int32) < (6 : Int32))).2.1 k) ?_
  show Go p e below _ (T_3.setTop (mkF m 10 #[vR a1, vI 1, vR a2, vI 1, vI 6, vI 1, vI c0] []))
  refine Go.step (fun _ k => XS.aloadN X_3.here hx rfl (hb hby d_jdk_52_method_21_code_10) rfl rfl k) ?_
  refine Go.step (fun _ k => XS.iloadN X_3.here hx rfl (hb hby d_jdk_52_method_21_code_11) rfl  k) ?_
  show Go p e below _ (T_3.setTop (mkF m 12 #[vR a1, vI 1, vR a2, vI 1, vI 6, vI 1, vI c0] [(.int (1 : Int32)), (.ref a1)]))
  have f6 : Arv Z h_3 a1 k1 .char (6 : Int32) [(.int c0), (.int c1), (.int c2), (.int c3), (.int c4), (.int c5)] (.int (0 : Int32)) := (A_a1.other W_3 n12)
  have cp7 := f6
  obtain ⟨cl_5, Ar_5, -, Sz_5, -, Hs_5, -⟩ := cp7
  have hin_5 : ¬ ((1 : Int32) < 0 ∨ cl_5.slots.size ≤ ((1 : Int32)).toNatClampNeg) := (inb_of Sz_5 ⟨by decide, by decide⟩)
  have hat_5 : cl_5.slots[((1 : Int32)).toNatClampNeg]? = some (.int c1) := (Hs_5.at (inb_of Sz_5 ⟨by decide, by decide⟩) rfl)
  refine Go.step (fun _ k => X_3.caload hx (j := (1 : Int32)) (v := (.int c1)) (by rw [e_3]; exact Ar_5.1) (State.isArrayOf_alike hZ.alike Ar_5.2.1) Ar_5.2.2 hin_5 hat_5 (g := (mkF m 12 #[vR a1, vI 1, vR a2, vI 1, vI 6, vI 1, vI c0] [(.int (1 : Int32)), (.ref a1)])) rfl rfl (hb hby d_jdk_52_method_21_code_12) _ k) ?_
  show Go p e below _ (T_3.setTop (mkF m 13 #[vR a1, vI 1, vR a2, vI 1, vI 6, vI 1, vI c0] [(.int c1)]))
  refine Go.step (fun _ k => XS.istore X_3.here hx rfl (hb hby d_jdk_52_method_21_code_13) rfl (l' := #[vR a1, vI 1, vR a2, vI 1, vI 6, vI 1, vI c1]) rfl k) ?_
  show Go p e below _ (T_3.setTop (mkF m 15 #[vR a1, vI 1, vR a2, vI 1, vI 6, vI 1, vI c1] []))
  refine Go.step (fun _ k => XS.iload X_3.here hx rfl (hb hby d_jdk_52_method_21_code_15) rfl  k) ?_
  refine Go.step (fun _ k => XS.sipush X_3.here hx rfl (hb hby d_jdk_52_method_21_code_17) k) ?_
  show Go p e below _ (T_3.setTop (mkF m 20 #[vR a1, vI 1, vR a2, vI 1, vI 6, vI 1, vI c1] [(.int (255 : Int32)), (.int c1)]))
  refine Go.step (fun _ k => XS.icmpYes X_3.here hx rfl (pc0 := 20) (pc' := 26) rfl (hb hby d_jdk_52_method_21_code_20) rfl (flt (l_c1 : ¬ ((255 : Int32) < c1))).2.2.2 (by decide) (by decide) k) ?_
  show Go p e below _ (T_3.setTop (mkF m 26 #[vR a1, vI 1, vR a2, vI 1, vI 6, vI 1, vI c1] []))
  refine Go.step (fun _ k => XS.aloadN X_3.here hx rfl (hb hby d_jdk_52_method_21_code_26) rfl rfl k) ?_
  refine Go.step (fun _ k => XS.iloadN X_3.here hx rfl (hb hby d_jdk_52_method_21_code_27) rfl  k) ?_
  refine Go.step (fun _ k => XS.iload X_3.here hx rfl (hb hby d_jdk_52_method_21_code_28) rfl  k) ?_
  show Go p e below _ (T_3.setTop (mkF m 30 #[vR a1, vI 1, vR a2, vI 1, vI 6, vI 1, vI c1] [(.int c1), (.int (1 : Int32)), (.ref a2)]))
  refine Go.step (fun _ k => XS.i2b X_3.here hx rfl (hb hby d_jdk_52_method_21_code_30) rfl k) ?_
  show Go p e below _ (T_3.setTop (mkF m 31 #[vR a1, vI 1, vR a2, vI 1, vI 6, vI 1, vI c1] [(.int c1.toInt8.toInt32), (.int (1 : Int32)), (.ref a2)]))
  have cp9 := V_3
  obtain ⟨cl_8, Ar_8, ck_8, Sz_8, Ng_8, Hs_8, Gs_8⟩ := cp9
  have hin_8 : ¬ ((1 : Int32) < 0 ∨ cl_8.slots.size ≤ ((1 : Int32)).toNatClampNeg) := inb_of Sz_8 ⟨by decide, by decide⟩
  obtain ⟨T_8, h_8, X_8, e_8, W_8, st_8⟩ := stB X_3 hx hZ e_3 Ar_8 (j := (1 : Int32)) hin_8 (g := (mkF m 31 #[vR a1, vI 1, vR a2, vI 1, vI 6, vI 1, vI c1] [(.int c1.toInt8.toInt32), (.int (1 : Int32)), (.ref a2)])) rfl rfl (hb hby d_jdk_52_method_21_code_31)
  refine Go.step st_8 ?_
  have N_8 := Fr.snoc X_8 N_3 g_a2
  have le_8 : h_3.size ≤ h_8.size := Nat.le_of_eq W_8.size.symm
  have KP_8 := KP_3.wr W_8 (Or.inl (List.mem_of_getElem? (i := 0) rfl))
  have O_8 := O_3.wr W_8 g_a2
  have V_8 : Arv Z h_8 a2 k2 .byte (6 : Int32) [(.int c0.toInt8.toInt32), (.int c1.toInt8.toInt32), (.int (0 : Int32)), (.int (0 : Int32)), (.int (0 : Int32)), (.int (0 : Int32))] (.int (0 : Int32)) := by
    have q := Arv.set Ar_8 ck_8 Sz_8 Ng_8 Hs_8 Gs_8 (fits_nar_byte _) W_8 1 rfl (Nat.le_of_ble_eq_true rfl)
    rw [i8_i8] at q; exact q
  show Go p e below _ (T_8.setTop (mkF m 32 #[vR a1, vI 1, vR a2, vI 1, vI 6, vI 1, vI c1] []))
  refine Go.step (fun _ k => XS.iinc X_8.here hx rfl (hb hby d_jdk_52_method_21_code_32) rfl (l' := #[vR a1, vI ((1 : Int32) + (1 : Int32)), vR a2, vI 1, vI 6, vI 1, vI c1]) rfl k) ?_
  show Go p e below _ (T_8.setTop (mkF m 35 #[vR a1, vI ((1 : Int32) + (1 : Int32)), vR a2, vI 1, vI 6, vI 1, vI c1] []))
  rw [show ((1 : Int32) + (1 : Int32)) = (2 : Int32) from by decide]
  show Go p e below _ (T_8.setTop (mkF m 35 #[vR a1, vI 2, vR a2, vI 1, vI 6, vI 1, vI c1] []))
  refine Go.step (fun _ k => XS.iinc X_8.here hx rfl (hb hby d_jdk_52_method_21_code_35) rfl (l' := #[vR a1, vI 2, vR a2, vI ((1 : Int32) + (1 : Int32)), vI 6, vI 1, vI c1]) rfl k) ?_
  show Go p e below _ (T_8.setTop (mkF m 38 #[vR a1, vI 2, vR a2, vI ((1 : Int32) + (1 : Int32)), vI 6, vI 1, vI c1] []))
  rw [show ((1 : Int32) + (1 : Int32)) = (2 : Int32) from by decide]
  show Go p e below _ (T_8.setTop (mkF m 38 #[vR a1, vI 2, vR a2, vI 2, vI 6, vI 1, vI c1] []))
  refine Go.step (fun _ k => XS.iinc X_8.here hx rfl (hb hby d_jdk_52_method_21_code_38) rfl (l' := #[vR a1, vI 2, vR a2, vI 2, vI 6, vI ((1 : Int32) + (1 : Int32)), vI c1]) rfl k) ?_
  show Go p e below _ (T_8.setTop (mkF m 41 #[vR a1, vI 2, vR a2, vI 2, vI 6, vI ((1 : Int32) + (1 : Int32)), vI c1] []))
  rw [show ((1 : Int32) + (1 : Int32)) = (2 : Int32) from by decide]
  show Go p e below _ (T_8.setTop (mkF m 41 #[vR a1, vI 2, vR a2, vI 2, vI 6, vI 2, vI c1] []))
  refine Go.step (fun _ k => XS.goto X_8.here hx rfl (pc0 := 41) (pc' := 3) rfl (hb hby d_jdk_52_method_21_code_41) (by decide) (by decide) k) ?_
  show Go p e below _ (T_8.setTop (mkF m 3 #[vR a1, vI 2, vR a2, vI 2, vI 6, vI 2, vI c1] []))
  refine Go.step (fun _ k => XS.iload X_8.here hx rfl (hb hby d_jdk_52_method_21_code_3) rfl  k) ?_
  refine Go.step (fun _ k => XS.iload X_8.here hx rfl (hb hby d_jdk_52_method_21_code_5) rfl  k) ?_
  show Go p e below _ (T_8.setTop (mkF m 7 #[vR a1, vI 2, vR a2, vI 2, vI 6, vI 2, vI c1] [(.int (6 : Int32)), (.int (2 : Int32))]))
  refine Go.step (fun _ k => XS.icmpNo X_8.here hx rfl (hb hby d_jdk_52_method_21_code_7) rfl (tlt ((by decide) : (2 : Int32) < (6 : Int32))).2.1 k) ?_
  show Go p e below _ (T_8.setTop (mkF m 10 #[vR a1, vI 2, vR a2, vI 2, vI 6, vI 2, vI c1] []))
  refine Go.step (fun _ k => XS.aloadN X_8.here hx rfl (hb hby d_jdk_52_method_21_code_10) rfl rfl k) ?_
  refine Go.step (fun _ k => XS.iloadN X_8.here hx rfl (hb hby d_jdk_52_method_21_code_11) rfl  k) ?_
  show Go p e below _ (T_8.setTop (mkF m 12 #[vR a1, vI 2, vR a2, vI 2, vI 6, vI 2, vI c1] [(.int (2 : Int32)), (.ref a1)]))
  have f11 : Arv Z h_8 a1 k1 .char (6 : Int32) [(.int c0), (.int c1), (.int c2), (.int c3), (.int c4), (.int c5)] (.int (0 : Int32)) := (f6.other W_8 n12)
  have cp12 := f11
  obtain ⟨cl_10, Ar_10, -, Sz_10, -, Hs_10, -⟩ := cp12
  have hin_10 : ¬ ((2 : Int32) < 0 ∨ cl_10.slots.size ≤ ((2 : Int32)).toNatClampNeg) := (inb_of Sz_10 ⟨by decide, by decide⟩)
  have hat_10 : cl_10.slots[((2 : Int32)).toNatClampNeg]? = some (.int c2) := (Hs_10.at (inb_of Sz_10 ⟨by decide, by decide⟩) rfl)
  refine Go.step (fun _ k => X_8.caload hx (j := (2 : Int32)) (v := (.int c2)) (by rw [e_8]; exact Ar_10.1) (State.isArrayOf_alike hZ.alike Ar_10.2.1) Ar_10.2.2 hin_10 hat_10 (g := (mkF m 12 #[vR a1, vI 2, vR a2, vI 2, vI 6, vI 2, vI c1] [(.int (2 : Int32)), (.ref a1)])) rfl rfl (hb hby d_jdk_52_method_21_code_12) _ k) ?_
  show Go p e below _ (T_8.setTop (mkF m 13 #[vR a1, vI 2, vR a2, vI 2, vI 6, vI 2, vI c1] [(.int c2)]))
  refine Go.step (fun _ k => XS.istore X_8.here hx rfl (hb hby d_jdk_52_method_21_code_13) rfl (l' := #[vR a1, vI 2, vR a2, vI 2, vI 6, vI 2, vI c2]) rfl k) ?_
  show Go p e below _ (T_8.setTop (mkF m 15 #[vR a1, vI 2, vR a2, vI 2, vI 6, vI 2, vI c2] []))
  refine Go.step (fun _ k => XS.iload X_8.here hx rfl (hb hby d_jdk_52_method_21_code_15) rfl  k) ?_
  refine Go.step (fun _ k => XS.sipush X_8.here hx rfl (hb hby d_jdk_52_method_21_code_17) k) ?_
  show Go p e below _ (T_8.setTop (mkF m 20 #[vR a1, vI 2, vR a2, vI 2, vI 6, vI 2, vI c2] [(.int (255 : Int32)), (.int c2)]))
  refine Go.step (fun _ k => XS.icmpYes X_8.here hx rfl (pc0 := 20) (pc' := 26) rfl (hb hby d_jdk_52_method_21_code_20) rfl (flt (l_c2 : ¬ ((255 : Int32) < c2))).2.2.2 (by decide) (by decide) k) ?_
  show Go p e below _ (T_8.setTop (mkF m 26 #[vR a1, vI 2, vR a2, vI 2, vI 6, vI 2, vI c2] []))
  refine Go.step (fun _ k => XS.aloadN X_8.here hx rfl (hb hby d_jdk_52_method_21_code_26) rfl rfl k) ?_
  refine Go.step (fun _ k => XS.iloadN X_8.here hx rfl (hb hby d_jdk_52_method_21_code_27) rfl  k) ?_
  refine Go.step (fun _ k => XS.iload X_8.here hx rfl (hb hby d_jdk_52_method_21_code_28) rfl  k) ?_
  show Go p e below _ (T_8.setTop (mkF m 30 #[vR a1, vI 2, vR a2, vI 2, vI 6, vI 2, vI c2] [(.int c2), (.int (2 : Int32)), (.ref a2)]))
  refine Go.step (fun _ k => XS.i2b X_8.here hx rfl (hb hby d_jdk_52_method_21_code_30) rfl k) ?_
  show Go p e below _ (T_8.setTop (mkF m 31 #[vR a1, vI 2, vR a2, vI 2, vI 6, vI 2, vI c2] [(.int c2.toInt8.toInt32), (.int (2 : Int32)), (.ref a2)]))
  have cp14 := V_8
  obtain ⟨cl_13, Ar_13, ck_13, Sz_13, Ng_13, Hs_13, Gs_13⟩ := cp14
  have hin_13 : ¬ ((2 : Int32) < 0 ∨ cl_13.slots.size ≤ ((2 : Int32)).toNatClampNeg) := inb_of Sz_13 ⟨by decide, by decide⟩
  obtain ⟨T_13, h_13, X_13, e_13, W_13, st_13⟩ := stB X_8 hx hZ e_8 Ar_13 (j := (2 : Int32)) hin_13 (g := (mkF m 31 #[vR a1, vI 2, vR a2, vI 2, vI 6, vI 2, vI c2] [(.int c2.toInt8.toInt32), (.int (2 : Int32)), (.ref a2)])) rfl rfl (hb hby d_jdk_52_method_21_code_31)
  refine Go.step st_13 ?_
  have N_13 := Fr.snoc X_13 N_8 g_a2
  have le_13 : h_8.size ≤ h_13.size := Nat.le_of_eq W_13.size.symm
  have KP_13 := KP_8.wr W_13 (Or.inl (List.mem_of_getElem? (i := 0) rfl))
  have O_13 := O_8.wr W_13 g_a2
  have V_13 : Arv Z h_13 a2 k2 .byte (6 : Int32) [(.int c0.toInt8.toInt32), (.int c1.toInt8.toInt32), (.int c2.toInt8.toInt32), (.int (0 : Int32)), (.int (0 : Int32)), (.int (0 : Int32))] (.int (0 : Int32)) := by
    have q := Arv.set Ar_13 ck_13 Sz_13 Ng_13 Hs_13 Gs_13 (fits_nar_byte _) W_13 2 rfl (Nat.le_of_ble_eq_true rfl)
    rw [i8_i8] at q; exact q
  show Go p e below _ (T_13.setTop (mkF m 32 #[vR a1, vI 2, vR a2, vI 2, vI 6, vI 2, vI c2] []))
  refine Go.step (fun _ k => XS.iinc X_13.here hx rfl (hb hby d_jdk_52_method_21_code_32) rfl (l' := #[vR a1, vI ((2 : Int32) + (1 : Int32)), vR a2, vI 2, vI 6, vI 2, vI c2]) rfl k) ?_
  show Go p e below _ (T_13.setTop (mkF m 35 #[vR a1, vI ((2 : Int32) + (1 : Int32)), vR a2, vI 2, vI 6, vI 2, vI c2] []))
  rw [show ((2 : Int32) + (1 : Int32)) = (3 : Int32) from by decide]
  show Go p e below _ (T_13.setTop (mkF m 35 #[vR a1, vI 3, vR a2, vI 2, vI 6, vI 2, vI c2] []))
  refine Go.step (fun _ k => XS.iinc X_13.here hx rfl (hb hby d_jdk_52_method_21_code_35) rfl (l' := #[vR a1, vI 3, vR a2, vI ((2 : Int32) + (1 : Int32)), vI 6, vI 2, vI c2]) rfl k) ?_
  show Go p e below _ (T_13.setTop (mkF m 38 #[vR a1, vI 3, vR a2, vI ((2 : Int32) + (1 : Int32)), vI 6, vI 2, vI c2] []))
  rw [show ((2 : Int32) + (1 : Int32)) = (3 : Int32) from by decide]
  show Go p e below _ (T_13.setTop (mkF m 38 #[vR a1, vI 3, vR a2, vI 3, vI 6, vI 2, vI c2] []))
  refine Go.step (fun _ k => XS.iinc X_13.here hx rfl (hb hby d_jdk_52_method_21_code_38) rfl (l' := #[vR a1, vI 3, vR a2, vI 3, vI 6, vI ((2 : Int32) + (1 : Int32)), vI c2]) rfl k) ?_
  show Go p e below _ (T_13.setTop (mkF m 41 #[vR a1, vI 3, vR a2, vI 3, vI 6, vI ((2 : Int32) + (1 : Int32)), vI c2] []))
  rw [show ((2 : Int32) + (1 : Int32)) = (3 : Int32) from by decide]
  show Go p e below _ (T_13.setTop (mkF m 41 #[vR a1, vI 3, vR a2, vI 3, vI 6, vI 3, vI c2] []))
  refine Go.step (fun _ k => XS.goto X_13.here hx rfl (pc0 := 41) (pc' := 3) rfl (hb hby d_jdk_52_method_21_code_41) (by decide) (by decide) k) ?_
  show Go p e below _ (T_13.setTop (mkF m 3 #[vR a1, vI 3, vR a2, vI 3, vI 6, vI 3, vI c2] []))
  refine Go.step (fun _ k => XS.iload X_13.here hx rfl (hb hby d_jdk_52_method_21_code_3) rfl  k) ?_
  refine Go.step (fun _ k => XS.iload X_13.here hx rfl (hb hby d_jdk_52_method_21_code_5) rfl  k) ?_
  show Go p e below _ (T_13.setTop (mkF m 7 #[vR a1, vI 3, vR a2, vI 3, vI 6, vI 3, vI c2] [(.int (6 : Int32)), (.int (3 : Int32))]))
  refine Go.step (fun _ k => XS.icmpNo X_13.here hx rfl (hb hby d_jdk_52_method_21_code_7) rfl (tlt ((by decide) : (3 : Int32) < (6 : Int32))).2.1 k) ?_
  show Go p e below _ (T_13.setTop (mkF m 10 #[vR a1, vI 3, vR a2, vI 3, vI 6, vI 3, vI c2] []))
  refine Go.step (fun _ k => XS.aloadN X_13.here hx rfl (hb hby d_jdk_52_method_21_code_10) rfl rfl k) ?_
  refine Go.step (fun _ k => XS.iloadN X_13.here hx rfl (hb hby d_jdk_52_method_21_code_11) rfl  k) ?_
  show Go p e below _ (T_13.setTop (mkF m 12 #[vR a1, vI 3, vR a2, vI 3, vI 6, vI 3, vI c2] [(.int (3 : Int32)), (.ref a1)]))
  have f16 : Arv Z h_13 a1 k1 .char (6 : Int32) [(.int c0), (.int c1), (.int c2), (.int c3), (.int c4), (.int c5)] (.int (0 : Int32)) := (f11.other W_13 n12)
  have cp17 := f16
  obtain ⟨cl_15, Ar_15, -, Sz_15, -, Hs_15, -⟩ := cp17
  have hin_15 : ¬ ((3 : Int32) < 0 ∨ cl_15.slots.size ≤ ((3 : Int32)).toNatClampNeg) := (inb_of Sz_15 ⟨by decide, by decide⟩)
  have hat_15 : cl_15.slots[((3 : Int32)).toNatClampNeg]? = some (.int c3) := (Hs_15.at (inb_of Sz_15 ⟨by decide, by decide⟩) rfl)
  refine Go.step (fun _ k => X_13.caload hx (j := (3 : Int32)) (v := (.int c3)) (by rw [e_13]; exact Ar_15.1) (State.isArrayOf_alike hZ.alike Ar_15.2.1) Ar_15.2.2 hin_15 hat_15 (g := (mkF m 12 #[vR a1, vI 3, vR a2, vI 3, vI 6, vI 3, vI c2] [(.int (3 : Int32)), (.ref a1)])) rfl rfl (hb hby d_jdk_52_method_21_code_12) _ k) ?_
  show Go p e below _ (T_13.setTop (mkF m 13 #[vR a1, vI 3, vR a2, vI 3, vI 6, vI 3, vI c2] [(.int c3)]))
  refine Go.step (fun _ k => XS.istore X_13.here hx rfl (hb hby d_jdk_52_method_21_code_13) rfl (l' := #[vR a1, vI 3, vR a2, vI 3, vI 6, vI 3, vI c3]) rfl k) ?_
  show Go p e below _ (T_13.setTop (mkF m 15 #[vR a1, vI 3, vR a2, vI 3, vI 6, vI 3, vI c3] []))
  refine Go.step (fun _ k => XS.iload X_13.here hx rfl (hb hby d_jdk_52_method_21_code_15) rfl  k) ?_
  refine Go.step (fun _ k => XS.sipush X_13.here hx rfl (hb hby d_jdk_52_method_21_code_17) k) ?_
  show Go p e below _ (T_13.setTop (mkF m 20 #[vR a1, vI 3, vR a2, vI 3, vI 6, vI 3, vI c3] [(.int (255 : Int32)), (.int c3)]))
  refine Go.step (fun _ k => XS.icmpYes X_13.here hx rfl (pc0 := 20) (pc' := 26) rfl (hb hby d_jdk_52_method_21_code_20) rfl (flt (l_c3 : ¬ ((255 : Int32) < c3))).2.2.2 (by decide) (by decide) k) ?_
  show Go p e below _ (T_13.setTop (mkF m 26 #[vR a1, vI 3, vR a2, vI 3, vI 6, vI 3, vI c3] []))
  refine Go.step (fun _ k => XS.aloadN X_13.here hx rfl (hb hby d_jdk_52_method_21_code_26) rfl rfl k) ?_
  refine Go.step (fun _ k => XS.iloadN X_13.here hx rfl (hb hby d_jdk_52_method_21_code_27) rfl  k) ?_
  refine Go.step (fun _ k => XS.iload X_13.here hx rfl (hb hby d_jdk_52_method_21_code_28) rfl  k) ?_
  show Go p e below _ (T_13.setTop (mkF m 30 #[vR a1, vI 3, vR a2, vI 3, vI 6, vI 3, vI c3] [(.int c3), (.int (3 : Int32)), (.ref a2)]))
  refine Go.step (fun _ k => XS.i2b X_13.here hx rfl (hb hby d_jdk_52_method_21_code_30) rfl k) ?_
  show Go p e below _ (T_13.setTop (mkF m 31 #[vR a1, vI 3, vR a2, vI 3, vI 6, vI 3, vI c3] [(.int c3.toInt8.toInt32), (.int (3 : Int32)), (.ref a2)]))
  have cp19 := V_13
  obtain ⟨cl_18, Ar_18, ck_18, Sz_18, Ng_18, Hs_18, Gs_18⟩ := cp19
  have hin_18 : ¬ ((3 : Int32) < 0 ∨ cl_18.slots.size ≤ ((3 : Int32)).toNatClampNeg) := inb_of Sz_18 ⟨by decide, by decide⟩
  obtain ⟨T_18, h_18, X_18, e_18, W_18, st_18⟩ := stB X_13 hx hZ e_13 Ar_18 (j := (3 : Int32)) hin_18 (g := (mkF m 31 #[vR a1, vI 3, vR a2, vI 3, vI 6, vI 3, vI c3] [(.int c3.toInt8.toInt32), (.int (3 : Int32)), (.ref a2)])) rfl rfl (hb hby d_jdk_52_method_21_code_31)
  refine Go.step st_18 ?_
  have N_18 := Fr.snoc X_18 N_13 g_a2
  have le_18 : h_13.size ≤ h_18.size := Nat.le_of_eq W_18.size.symm
  have KP_18 := KP_13.wr W_18 (Or.inl (List.mem_of_getElem? (i := 0) rfl))
  have O_18 := O_13.wr W_18 g_a2
  have V_18 : Arv Z h_18 a2 k2 .byte (6 : Int32) [(.int c0.toInt8.toInt32), (.int c1.toInt8.toInt32), (.int c2.toInt8.toInt32), (.int c3.toInt8.toInt32), (.int (0 : Int32)), (.int (0 : Int32))] (.int (0 : Int32)) := by
    have q := Arv.set Ar_18 ck_18 Sz_18 Ng_18 Hs_18 Gs_18 (fits_nar_byte _) W_18 3 rfl (Nat.le_of_ble_eq_true rfl)
    rw [i8_i8] at q; exact q
  show Go p e below _ (T_18.setTop (mkF m 32 #[vR a1, vI 3, vR a2, vI 3, vI 6, vI 3, vI c3] []))
  refine Go.step (fun _ k => XS.iinc X_18.here hx rfl (hb hby d_jdk_52_method_21_code_32) rfl (l' := #[vR a1, vI ((3 : Int32) + (1 : Int32)), vR a2, vI 3, vI 6, vI 3, vI c3]) rfl k) ?_
  show Go p e below _ (T_18.setTop (mkF m 35 #[vR a1, vI ((3 : Int32) + (1 : Int32)), vR a2, vI 3, vI 6, vI 3, vI c3] []))
  rw [show ((3 : Int32) + (1 : Int32)) = (4 : Int32) from by decide]
  show Go p e below _ (T_18.setTop (mkF m 35 #[vR a1, vI 4, vR a2, vI 3, vI 6, vI 3, vI c3] []))
  refine Go.step (fun _ k => XS.iinc X_18.here hx rfl (hb hby d_jdk_52_method_21_code_35) rfl (l' := #[vR a1, vI 4, vR a2, vI ((3 : Int32) + (1 : Int32)), vI 6, vI 3, vI c3]) rfl k) ?_
  show Go p e below _ (T_18.setTop (mkF m 38 #[vR a1, vI 4, vR a2, vI ((3 : Int32) + (1 : Int32)), vI 6, vI 3, vI c3] []))
  rw [show ((3 : Int32) + (1 : Int32)) = (4 : Int32) from by decide]
  show Go p e below _ (T_18.setTop (mkF m 38 #[vR a1, vI 4, vR a2, vI 4, vI 6, vI 3, vI c3] []))
  refine Go.step (fun _ k => XS.iinc X_18.here hx rfl (hb hby d_jdk_52_method_21_code_38) rfl (l' := #[vR a1, vI 4, vR a2, vI 4, vI 6, vI ((3 : Int32) + (1 : Int32)), vI c3]) rfl k) ?_
  show Go p e below _ (T_18.setTop (mkF m 41 #[vR a1, vI 4, vR a2, vI 4, vI 6, vI ((3 : Int32) + (1 : Int32)), vI c3] []))
  rw [show ((3 : Int32) + (1 : Int32)) = (4 : Int32) from by decide]
  show Go p e below _ (T_18.setTop (mkF m 41 #[vR a1, vI 4, vR a2, vI 4, vI 6, vI 4, vI c3] []))
  refine Go.step (fun _ k => XS.goto X_18.here hx rfl (pc0 := 41) (pc' := 3) rfl (hb hby d_jdk_52_method_21_code_41) (by decide) (by decide) k) ?_
  show Go p e below _ (T_18.setTop (mkF m 3 #[vR a1, vI 4, vR a2, vI 4, vI 6, vI 4, vI c3] []))
  refine Go.step (fun _ k => XS.iload X_18.here hx rfl (hb hby d_jdk_52_method_21_code_3) rfl  k) ?_
  refine Go.step (fun _ k => XS.iload X_18.here hx rfl (hb hby d_jdk_52_method_21_code_5) rfl  k) ?_
  show Go p e below _ (T_18.setTop (mkF m 7 #[vR a1, vI 4, vR a2, vI 4, vI 6, vI 4, vI c3] [(.int (6 : Int32)), (.int (4 : Int32))]))
  refine Go.step (fun _ k => XS.icmpNo X_18.here hx rfl (hb hby d_jdk_52_method_21_code_7) rfl (tlt ((by decide) : (4 : Int32) < (6 : Int32))).2.1 k) ?_
  show Go p e below _ (T_18.setTop (mkF m 10 #[vR a1, vI 4, vR a2, vI 4, vI 6, vI 4, vI c3] []))
  refine Go.step (fun _ k => XS.aloadN X_18.here hx rfl (hb hby d_jdk_52_method_21_code_10) rfl rfl k) ?_
  refine Go.step (fun _ k => XS.iloadN X_18.here hx rfl (hb hby d_jdk_52_method_21_code_11) rfl  k) ?_
  show Go p e below _ (T_18.setTop (mkF m 12 #[vR a1, vI 4, vR a2, vI 4, vI 6, vI 4, vI c3] [(.int (4 : Int32)), (.ref a1)]))
  have f21 : Arv Z h_18 a1 k1 .char (6 : Int32) [(.int c0), (.int c1), (.int c2), (.int c3), (.int c4), (.int c5)] (.int (0 : Int32)) := (f16.other W_18 n12)
  have cp22 := f21
  obtain ⟨cl_20, Ar_20, -, Sz_20, -, Hs_20, -⟩ := cp22
  have hin_20 : ¬ ((4 : Int32) < 0 ∨ cl_20.slots.size ≤ ((4 : Int32)).toNatClampNeg) := (inb_of Sz_20 ⟨by decide, by decide⟩)
  have hat_20 : cl_20.slots[((4 : Int32)).toNatClampNeg]? = some (.int c4) := (Hs_20.at (inb_of Sz_20 ⟨by decide, by decide⟩) rfl)
  refine Go.step (fun _ k => X_18.caload hx (j := (4 : Int32)) (v := (.int c4)) (by rw [e_18]; exact Ar_20.1) (State.isArrayOf_alike hZ.alike Ar_20.2.1) Ar_20.2.2 hin_20 hat_20 (g := (mkF m 12 #[vR a1, vI 4, vR a2, vI 4, vI 6, vI 4, vI c3] [(.int (4 : Int32)), (.ref a1)])) rfl rfl (hb hby d_jdk_52_method_21_code_12) _ k) ?_
  show Go p e below _ (T_18.setTop (mkF m 13 #[vR a1, vI 4, vR a2, vI 4, vI 6, vI 4, vI c3] [(.int c4)]))
  refine Go.step (fun _ k => XS.istore X_18.here hx rfl (hb hby d_jdk_52_method_21_code_13) rfl (l' := #[vR a1, vI 4, vR a2, vI 4, vI 6, vI 4, vI c4]) rfl k) ?_
  show Go p e below _ (T_18.setTop (mkF m 15 #[vR a1, vI 4, vR a2, vI 4, vI 6, vI 4, vI c4] []))
  refine Go.step (fun _ k => XS.iload X_18.here hx rfl (hb hby d_jdk_52_method_21_code_15) rfl  k) ?_
  refine Go.step (fun _ k => XS.sipush X_18.here hx rfl (hb hby d_jdk_52_method_21_code_17) k) ?_
  show Go p e below _ (T_18.setTop (mkF m 20 #[vR a1, vI 4, vR a2, vI 4, vI 6, vI 4, vI c4] [(.int (255 : Int32)), (.int c4)]))
  refine Go.step (fun _ k => XS.icmpYes X_18.here hx rfl (pc0 := 20) (pc' := 26) rfl (hb hby d_jdk_52_method_21_code_20) rfl (flt (l_c4 : ¬ ((255 : Int32) < c4))).2.2.2 (by decide) (by decide) k) ?_
  show Go p e below _ (T_18.setTop (mkF m 26 #[vR a1, vI 4, vR a2, vI 4, vI 6, vI 4, vI c4] []))
  refine Go.step (fun _ k => XS.aloadN X_18.here hx rfl (hb hby d_jdk_52_method_21_code_26) rfl rfl k) ?_
  refine Go.step (fun _ k => XS.iloadN X_18.here hx rfl (hb hby d_jdk_52_method_21_code_27) rfl  k) ?_
  refine Go.step (fun _ k => XS.iload X_18.here hx rfl (hb hby d_jdk_52_method_21_code_28) rfl  k) ?_
  show Go p e below _ (T_18.setTop (mkF m 30 #[vR a1, vI 4, vR a2, vI 4, vI 6, vI 4, vI c4] [(.int c4), (.int (4 : Int32)), (.ref a2)]))
  refine Go.step (fun _ k => XS.i2b X_18.here hx rfl (hb hby d_jdk_52_method_21_code_30) rfl k) ?_
  show Go p e below _ (T_18.setTop (mkF m 31 #[vR a1, vI 4, vR a2, vI 4, vI 6, vI 4, vI c4] [(.int c4.toInt8.toInt32), (.int (4 : Int32)), (.ref a2)]))
  have cp24 := V_18
  obtain ⟨cl_23, Ar_23, ck_23, Sz_23, Ng_23, Hs_23, Gs_23⟩ := cp24
  have hin_23 : ¬ ((4 : Int32) < 0 ∨ cl_23.slots.size ≤ ((4 : Int32)).toNatClampNeg) := inb_of Sz_23 ⟨by decide, by decide⟩
  obtain ⟨T_23, h_23, X_23, e_23, W_23, st_23⟩ := stB X_18 hx hZ e_18 Ar_23 (j := (4 : Int32)) hin_23 (g := (mkF m 31 #[vR a1, vI 4, vR a2, vI 4, vI 6, vI 4, vI c4] [(.int c4.toInt8.toInt32), (.int (4 : Int32)), (.ref a2)])) rfl rfl (hb hby d_jdk_52_method_21_code_31)
  refine Go.step st_23 ?_
  have N_23 := Fr.snoc X_23 N_18 g_a2
  have le_23 : h_18.size ≤ h_23.size := Nat.le_of_eq W_23.size.symm
  have KP_23 := KP_18.wr W_23 (Or.inl (List.mem_of_getElem? (i := 0) rfl))
  have O_23 := O_18.wr W_23 g_a2
  have V_23 : Arv Z h_23 a2 k2 .byte (6 : Int32) [(.int c0.toInt8.toInt32), (.int c1.toInt8.toInt32), (.int c2.toInt8.toInt32), (.int c3.toInt8.toInt32), (.int c4.toInt8.toInt32), (.int (0 : Int32))] (.int (0 : Int32)) := by
    have q := Arv.set Ar_23 ck_23 Sz_23 Ng_23 Hs_23 Gs_23 (fits_nar_byte _) W_23 4 rfl (Nat.le_of_ble_eq_true rfl)
    rw [i8_i8] at q; exact q
  show Go p e below _ (T_23.setTop (mkF m 32 #[vR a1, vI 4, vR a2, vI 4, vI 6, vI 4, vI c4] []))
  refine Go.step (fun _ k => XS.iinc X_23.here hx rfl (hb hby d_jdk_52_method_21_code_32) rfl (l' := #[vR a1, vI ((4 : Int32) + (1 : Int32)), vR a2, vI 4, vI 6, vI 4, vI c4]) rfl k) ?_
  show Go p e below _ (T_23.setTop (mkF m 35 #[vR a1, vI ((4 : Int32) + (1 : Int32)), vR a2, vI 4, vI 6, vI 4, vI c4] []))
  rw [show ((4 : Int32) + (1 : Int32)) = (5 : Int32) from by decide]
  show Go p e below _ (T_23.setTop (mkF m 35 #[vR a1, vI 5, vR a2, vI 4, vI 6, vI 4, vI c4] []))
  refine Go.step (fun _ k => XS.iinc X_23.here hx rfl (hb hby d_jdk_52_method_21_code_35) rfl (l' := #[vR a1, vI 5, vR a2, vI ((4 : Int32) + (1 : Int32)), vI 6, vI 4, vI c4]) rfl k) ?_
  show Go p e below _ (T_23.setTop (mkF m 38 #[vR a1, vI 5, vR a2, vI ((4 : Int32) + (1 : Int32)), vI 6, vI 4, vI c4] []))
  rw [show ((4 : Int32) + (1 : Int32)) = (5 : Int32) from by decide]
  show Go p e below _ (T_23.setTop (mkF m 38 #[vR a1, vI 5, vR a2, vI 5, vI 6, vI 4, vI c4] []))
  refine Go.step (fun _ k => XS.iinc X_23.here hx rfl (hb hby d_jdk_52_method_21_code_38) rfl (l' := #[vR a1, vI 5, vR a2, vI 5, vI 6, vI ((4 : Int32) + (1 : Int32)), vI c4]) rfl k) ?_
  show Go p e below _ (T_23.setTop (mkF m 41 #[vR a1, vI 5, vR a2, vI 5, vI 6, vI ((4 : Int32) + (1 : Int32)), vI c4] []))
  rw [show ((4 : Int32) + (1 : Int32)) = (5 : Int32) from by decide]
  show Go p e below _ (T_23.setTop (mkF m 41 #[vR a1, vI 5, vR a2, vI 5, vI 6, vI 5, vI c4] []))
  refine Go.step (fun _ k => XS.goto X_23.here hx rfl (pc0 := 41) (pc' := 3) rfl (hb hby d_jdk_52_method_21_code_41) (by decide) (by decide) k) ?_
  show Go p e below _ (T_23.setTop (mkF m 3 #[vR a1, vI 5, vR a2, vI 5, vI 6, vI 5, vI c4] []))
  refine Go.step (fun _ k => XS.iload X_23.here hx rfl (hb hby d_jdk_52_method_21_code_3) rfl  k) ?_
  refine Go.step (fun _ k => XS.iload X_23.here hx rfl (hb hby d_jdk_52_method_21_code_5) rfl  k) ?_
  show Go p e below _ (T_23.setTop (mkF m 7 #[vR a1, vI 5, vR a2, vI 5, vI 6, vI 5, vI c4] [(.int (6 : Int32)), (.int (5 : Int32))]))
  refine Go.step (fun _ k => XS.icmpNo X_23.here hx rfl (hb hby d_jdk_52_method_21_code_7) rfl (tlt ((by decide) : (5 : Int32) < (6 : Int32))).2.1 k) ?_
  show Go p e below _ (T_23.setTop (mkF m 10 #[vR a1, vI 5, vR a2, vI 5, vI 6, vI 5, vI c4] []))
  refine Go.step (fun _ k => XS.aloadN X_23.here hx rfl (hb hby d_jdk_52_method_21_code_10) rfl rfl k) ?_
  refine Go.step (fun _ k => XS.iloadN X_23.here hx rfl (hb hby d_jdk_52_method_21_code_11) rfl  k) ?_
  show Go p e below _ (T_23.setTop (mkF m 12 #[vR a1, vI 5, vR a2, vI 5, vI 6, vI 5, vI c4] [(.int (5 : Int32)), (.ref a1)]))
  have f26 : Arv Z h_23 a1 k1 .char (6 : Int32) [(.int c0), (.int c1), (.int c2), (.int c3), (.int c4), (.int c5)] (.int (0 : Int32)) := (f21.other W_23 n12)
  have cp27 := f26
  obtain ⟨cl_25, Ar_25, -, Sz_25, -, Hs_25, -⟩ := cp27
  have hin_25 : ¬ ((5 : Int32) < 0 ∨ cl_25.slots.size ≤ ((5 : Int32)).toNatClampNeg) := (inb_of Sz_25 ⟨by decide, by decide⟩)
  have hat_25 : cl_25.slots[((5 : Int32)).toNatClampNeg]? = some (.int c5) := (Hs_25.at (inb_of Sz_25 ⟨by decide, by decide⟩) rfl)
  refine Go.step (fun _ k => X_23.caload hx (j := (5 : Int32)) (v := (.int c5)) (by rw [e_23]; exact Ar_25.1) (State.isArrayOf_alike hZ.alike Ar_25.2.1) Ar_25.2.2 hin_25 hat_25 (g := (mkF m 12 #[vR a1, vI 5, vR a2, vI 5, vI 6, vI 5, vI c4] [(.int (5 : Int32)), (.ref a1)])) rfl rfl (hb hby d_jdk_52_method_21_code_12) _ k) ?_
  show Go p e below _ (T_23.setTop (mkF m 13 #[vR a1, vI 5, vR a2, vI 5, vI 6, vI 5, vI c4] [(.int c5)]))
  refine Go.step (fun _ k => XS.istore X_23.here hx rfl (hb hby d_jdk_52_method_21_code_13) rfl (l' := #[vR a1, vI 5, vR a2, vI 5, vI 6, vI 5, vI c5]) rfl k) ?_
  show Go p e below _ (T_23.setTop (mkF m 15 #[vR a1, vI 5, vR a2, vI 5, vI 6, vI 5, vI c5] []))
  refine Go.step (fun _ k => XS.iload X_23.here hx rfl (hb hby d_jdk_52_method_21_code_15) rfl  k) ?_
  refine Go.step (fun _ k => XS.sipush X_23.here hx rfl (hb hby d_jdk_52_method_21_code_17) k) ?_
  show Go p e below _ (T_23.setTop (mkF m 20 #[vR a1, vI 5, vR a2, vI 5, vI 6, vI 5, vI c5] [(.int (255 : Int32)), (.int c5)]))
  refine Go.step (fun _ k => XS.icmpYes X_23.here hx rfl (pc0 := 20) (pc' := 26) rfl (hb hby d_jdk_52_method_21_code_20) rfl (flt (l_c5 : ¬ ((255 : Int32) < c5))).2.2.2 (by decide) (by decide) k) ?_
  show Go p e below _ (T_23.setTop (mkF m 26 #[vR a1, vI 5, vR a2, vI 5, vI 6, vI 5, vI c5] []))
  refine Go.step (fun _ k => XS.aloadN X_23.here hx rfl (hb hby d_jdk_52_method_21_code_26) rfl rfl k) ?_
  refine Go.step (fun _ k => XS.iloadN X_23.here hx rfl (hb hby d_jdk_52_method_21_code_27) rfl  k) ?_
  refine Go.step (fun _ k => XS.iload X_23.here hx rfl (hb hby d_jdk_52_method_21_code_28) rfl  k) ?_
  show Go p e below _ (T_23.setTop (mkF m 30 #[vR a1, vI 5, vR a2, vI 5, vI 6, vI 5, vI c5] [(.int c5), (.int (5 : Int32)), (.ref a2)]))
  refine Go.step (fun _ k => XS.i2b X_23.here hx rfl (hb hby d_jdk_52_method_21_code_30) rfl k) ?_
  show Go p e below _ (T_23.setTop (mkF m 31 #[vR a1, vI 5, vR a2, vI 5, vI 6, vI 5, vI c5] [(.int c5.toInt8.toInt32), (.int (5 : Int32)), (.ref a2)]))
  have cp29 := V_23
  obtain ⟨cl_28, Ar_28, ck_28, Sz_28, Ng_28, Hs_28, Gs_28⟩ := cp29
  have hin_28 : ¬ ((5 : Int32) < 0 ∨ cl_28.slots.size ≤ ((5 : Int32)).toNatClampNeg) := inb_of Sz_28 ⟨by decide, by decide⟩
  obtain ⟨T_28, h_28, X_28, e_28, W_28, st_28⟩ := stB X_23 hx hZ e_23 Ar_28 (j := (5 : Int32)) hin_28 (g := (mkF m 31 #[vR a1, vI 5, vR a2, vI 5, vI 6, vI 5, vI c5] [(.int c5.toInt8.toInt32), (.int (5 : Int32)), (.ref a2)])) rfl rfl (hb hby d_jdk_52_method_21_code_31)
  refine Go.step st_28 ?_
  have N_28 := Fr.snoc X_28 N_23 g_a2
  have le_28 : h_23.size ≤ h_28.size := Nat.le_of_eq W_28.size.symm
  have KP_28 := KP_23.wr W_28 (Or.inl (List.mem_of_getElem? (i := 0) rfl))
  have O_28 := O_23.wr W_28 g_a2
  have V_28 : Arv Z h_28 a2 k2 .byte (6 : Int32) [(.int c0.toInt8.toInt32), (.int c1.toInt8.toInt32), (.int c2.toInt8.toInt32), (.int c3.toInt8.toInt32), (.int c4.toInt8.toInt32), (.int c5.toInt8.toInt32)] (.int (0 : Int32)) := by
    have q := Arv.set Ar_28 ck_28 Sz_28 Ng_28 Hs_28 Gs_28 (fits_nar_byte _) W_28 5 rfl (Nat.le_of_ble_eq_true rfl)
    rw [i8_i8] at q; exact q
  show Go p e below _ (T_28.setTop (mkF m 32 #[vR a1, vI 5, vR a2, vI 5, vI 6, vI 5, vI c5] []))
  refine Go.step (fun _ k => XS.iinc X_28.here hx rfl (hb hby d_jdk_52_method_21_code_32) rfl (l' := #[vR a1, vI ((5 : Int32) + (1 : Int32)), vR a2, vI 5, vI 6, vI 5, vI c5]) rfl k) ?_
  show Go p e below _ (T_28.setTop (mkF m 35 #[vR a1, vI ((5 : Int32) + (1 : Int32)), vR a2, vI 5, vI 6, vI 5, vI c5] []))
  rw [show ((5 : Int32) + (1 : Int32)) = (6 : Int32) from by decide]
  show Go p e below _ (T_28.setTop (mkF m 35 #[vR a1, vI 6, vR a2, vI 5, vI 6, vI 5, vI c5] []))
  refine Go.step (fun _ k => XS.iinc X_28.here hx rfl (hb hby d_jdk_52_method_21_code_35) rfl (l' := #[vR a1, vI 6, vR a2, vI ((5 : Int32) + (1 : Int32)), vI 6, vI 5, vI c5]) rfl k) ?_
  show Go p e below _ (T_28.setTop (mkF m 38 #[vR a1, vI 6, vR a2, vI ((5 : Int32) + (1 : Int32)), vI 6, vI 5, vI c5] []))
  rw [show ((5 : Int32) + (1 : Int32)) = (6 : Int32) from by decide]
  show Go p e below _ (T_28.setTop (mkF m 38 #[vR a1, vI 6, vR a2, vI 6, vI 6, vI 5, vI c5] []))
  refine Go.step (fun _ k => XS.iinc X_28.here hx rfl (hb hby d_jdk_52_method_21_code_38) rfl (l' := #[vR a1, vI 6, vR a2, vI 6, vI 6, vI ((5 : Int32) + (1 : Int32)), vI c5]) rfl k) ?_
  show Go p e below _ (T_28.setTop (mkF m 41 #[vR a1, vI 6, vR a2, vI 6, vI 6, vI ((5 : Int32) + (1 : Int32)), vI c5] []))
  rw [show ((5 : Int32) + (1 : Int32)) = (6 : Int32) from by decide]
  show Go p e below _ (T_28.setTop (mkF m 41 #[vR a1, vI 6, vR a2, vI 6, vI 6, vI 6, vI c5] []))
  refine Go.step (fun _ k => XS.goto X_28.here hx rfl (pc0 := 41) (pc' := 3) rfl (hb hby d_jdk_52_method_21_code_41) (by decide) (by decide) k) ?_
  show Go p e below _ (T_28.setTop (mkF m 3 #[vR a1, vI 6, vR a2, vI 6, vI 6, vI 6, vI c5] []))
  refine Go.step (fun _ k => XS.iload X_28.here hx rfl (hb hby d_jdk_52_method_21_code_3) rfl  k) ?_
  refine Go.step (fun _ k => XS.iload X_28.here hx rfl (hb hby d_jdk_52_method_21_code_5) rfl  k) ?_
  show Go p e below _ (T_28.setTop (mkF m 7 #[vR a1, vI 6, vR a2, vI 6, vI 6, vI 6, vI c5] [(.int (6 : Int32)), (.int (6 : Int32))]))
  refine Go.step (fun _ k => XS.icmpYes X_28.here hx rfl (pc0 := 7) (pc' := 44) rfl (hb hby d_jdk_52_method_21_code_7) rfl (flt ((by decide) : ¬ ((6 : Int32) < (6 : Int32)))).2.1 (by decide) (by decide) k) ?_
  show Go p e below _ (T_28.setTop (mkF m 44 #[vR a1, vI 6, vR a2, vI 6, vI 6, vI 6, vI c5] []))
  refine Go.step (fun _ k => XS.iload X_28.here hx rfl (hb hby d_jdk_52_method_21_code_44) rfl  k) ?_
  show Go p e below _ (T_28.setTop (mkF m 46 #[vR a1, vI 6, vR a2, vI 6, vI 6, vI 6, vI c5] [(.int (6 : Int32))]))
  exact Go.retV X_28 hx hlk hret rfl (Or.inl ⟨rfl, Or.inl rfl, _, rfl⟩) (hb hby d_jdk_52_method_21_code_46) (by decide) (by decide) (by rw [e_28]; exact ⟨rfl, N_28, KP_28, V_28⟩)
--@E
--@C c5U
def Q_c5U (Z : State) (zc : Int32) (vfm : Value) (a1 : Addr) (k1 : ClassId) (a2 : Addr) (k2 : ClassId) (c0 : Int32) (c1 : Int32) (c2 : Int32) (c3 : Int32) (c4 : Int32) (c5 : Int32) (h0 : Heap) (n0 : Nat) (v : Option Value) (h : Heap) (L : List Loc) : Prop := ∃ (v1 : Int32), v = some (.int v1) ∧ Fr n0 L ∧ Keep h0 h [a2] ∧ ((0 ≤ v1.toInt ∧ v1.toInt < 6) ∧ (255 : Int32) < sel c0 c1 c2 c3 c4 c5 v1)
set_option maxRecDepth 65536 in
set_option maxHeartbeats 40000000 in
theorem rm_c5U (l : Launch) (Z : State) (a0 : Array Value) (hw : ∀ d ∈ tables_1, d.before a0 Z = true) (zc : Int32) (vfm : Value) (a1 : Addr) (k1 : ClassId) (a2 : Addr) (k2 : ClassId) (c0 : Int32) (c1 : Int32) (c2 : Int32) (c3 : Int32) (c4 : Int32) (c5 : Int32) (h0 : Heap) (n0 : Nat) (Z0 : n0 ≤ h0.size) (A_a1 : Arv Z h0 a1 k1 .char (6 : Int32) [(.int c0), (.int c1), (.int c2), (.int c3), (.int c4), (.int c5)] (.int (0 : Int32))) (A_a2 : Arv Z h0 a2 k2 .byte (6 : Int32) [(.int (0 : Int32)), (.int (0 : Int32)), (.int (0 : Int32)), (.int (0 : Int32)), (.int (0 : Int32)), (.int (0 : Int32))] (.int (0 : Int32))) (g_a2 : n0 ≤ a2) (n12 : (a1 ≠ a2)) (hU : (¬ (¬ (255 : Int32) < c0 ∧ ¬ (255 : Int32) < c1 ∧ ¬ (255 : Int32) < c2 ∧ ¬ (255 : Int32) < c3 ∧ ¬ (255 : Int32) < c4 ∧ ¬ (255 : Int32) < c5))) (hSt : St Z zc vfm) (hO : Old Z n0 h0) :
    CN l Z ({ cls := "java/lang/StringUTF16", name := "compress", desc := "([CI[BII)I" } : Jvm.MethodName) [(Jvm.Cond.code ({ cls := "java/lang/StringUTF16", name := "compress", desc := "([CI[BII)I" } : Jvm.MethodName) jdk_52_method_21_code (7 : Nat) (Option.some Jvm.ClassFile.FieldType.int))] ({ frames := 0, cells := 0, slots := 0, locals := 0 } : Room) #[(.ref a1), (.int (0 : Int32)), (.ref a2), (.int (0 : Int32)), (.int (6 : Int32))] h0 (Q_c5U Z zc vfm a1 k1 a2 k2 c0 c1 c2 c3 c4 c5 h0 n0) := by
  refine CN.of (L0 := #[vR a1, vI 0, vR a2, vI 0, vI 6, vU, vU]) (plainFor_of_name pn_1) (fun m => by first | (simp [entryFrame, mkF, argsToLocals, Value.category]; done) | rfl) ?_
  intro p e s m below meth c s₁ hx hby hml hret hlk hZ hown hnm X0 e0
  have N0 := Fr.nil n0
  have KP0 := Keep.refl h0 [a2]
  have hSt_ := hSt
  obtain ⟨S_cs, n_cs, S_fm, r_fm, S_ad, S_hi, S_lo⟩ := hSt_
  show Go p e below _ (s₁.setTop (mkF m 0 #[vR a1, vI 0, vR a2, vI 0, vI 6, vU, vU] []))
  refine Go.step (fun _ k => XS.iconst X0.here hx rfl (hb hby d_jdk_52_method_21_code_0) k) ?_
  show Go p e below _ (s₁.setTop (mkF m 1 #[vR a1, vI 0, vR a2, vI 0, vI 6, vU, vU] [(.int (0 : Int32))]))
  refine Go.step (fun _ k => XS.istore X0.here hx rfl (hb hby d_jdk_52_method_21_code_1) rfl (l' := #[vR a1, vI 0, vR a2, vI 0, vI 6, vI 0, vU]) rfl k) ?_
  show Go p e below _ (s₁.setTop (mkF m 3 #[vR a1, vI 0, vR a2, vI 0, vI 6, vI 0, vU] []))
  refine Go.step (fun _ k => XS.iload X0.here hx rfl (hb hby d_jdk_52_method_21_code_3) rfl  k) ?_
  refine Go.step (fun _ k => XS.iload X0.here hx rfl (hb hby d_jdk_52_method_21_code_5) rfl  k) ?_
  show Go p e below _ (s₁.setTop (mkF m 7 #[vR a1, vI 0, vR a2, vI 0, vI 6, vI 0, vU] [(.int (6 : Int32)), (.int (0 : Int32))]))
  refine Go.step (fun _ k => XS.icmpNo X0.here hx rfl (hb hby d_jdk_52_method_21_code_7) rfl (tlt ((by decide) : (0 : Int32) < (6 : Int32))).2.1 k) ?_
  show Go p e below _ (s₁.setTop (mkF m 10 #[vR a1, vI 0, vR a2, vI 0, vI 6, vI 0, vU] []))
  refine Go.step (fun _ k => XS.aloadN X0.here hx rfl (hb hby d_jdk_52_method_21_code_10) rfl rfl k) ?_
  refine Go.step (fun _ k => XS.iloadN X0.here hx rfl (hb hby d_jdk_52_method_21_code_11) rfl  k) ?_
  show Go p e below _ (s₁.setTop (mkF m 12 #[vR a1, vI 0, vR a2, vI 0, vI 6, vI 0, vU] [(.int (0 : Int32)), (.ref a1)]))
  have cp31 := A_a1
  obtain ⟨cl_30, Ar_30, -, Sz_30, -, Hs_30, -⟩ := cp31
  have hin_30 : ¬ ((0 : Int32) < 0 ∨ cl_30.slots.size ≤ ((0 : Int32)).toNatClampNeg) := (inb_of Sz_30 ⟨by decide, by decide⟩)
  have hat_30 : cl_30.slots[((0 : Int32)).toNatClampNeg]? = some (.int c0) := (Hs_30.at (inb_of Sz_30 ⟨by decide, by decide⟩) rfl)
  refine Go.step (fun _ k => X0.caload hx (j := (0 : Int32)) (v := (.int c0)) (by rw [e0]; exact Ar_30.1) (State.isArrayOf_alike hZ.alike Ar_30.2.1) Ar_30.2.2 hin_30 hat_30 (g := (mkF m 12 #[vR a1, vI 0, vR a2, vI 0, vI 6, vI 0, vU] [(.int (0 : Int32)), (.ref a1)])) rfl rfl (hb hby d_jdk_52_method_21_code_12) _ k) ?_
  show Go p e below _ (s₁.setTop (mkF m 13 #[vR a1, vI 0, vR a2, vI 0, vI 6, vI 0, vU] [(.int c0)]))
  refine Go.step (fun _ k => XS.istore X0.here hx rfl (hb hby d_jdk_52_method_21_code_13) rfl (l' := #[vR a1, vI 0, vR a2, vI 0, vI 6, vI 0, vI c0]) rfl k) ?_
  show Go p e below _ (s₁.setTop (mkF m 15 #[vR a1, vI 0, vR a2, vI 0, vI 6, vI 0, vI c0] []))
  refine Go.step (fun _ k => XS.iload X0.here hx rfl (hb hby d_jdk_52_method_21_code_15) rfl  k) ?_
  refine Go.step (fun _ k => XS.sipush X0.here hx rfl (hb hby d_jdk_52_method_21_code_17) k) ?_
  show Go p e below _ (s₁.setTop (mkF m 20 #[vR a1, vI 0, vR a2, vI 0, vI 6, vI 0, vI c0] [(.int (255 : Int32)), (.int c0)]))
  by_cases y0 : (255 : Int32) < c0
  · skip
    refine Go.step (fun _ k => XS.icmpNo X0.here hx rfl (hb hby d_jdk_52_method_21_code_20) rfl (tlt y0).2.2.2 k) ?_
    show Go p e below _ (s₁.setTop (mkF m 23 #[vR a1, vI 0, vR a2, vI 0, vI 6, vI 0, vI c0] []))
    refine Go.step (fun _ k => XS.iload X0.here hx rfl (hb hby d_jdk_52_method_21_code_23) rfl  k) ?_
    show Go p e below _ (s₁.setTop (mkF m 25 #[vR a1, vI 0, vR a2, vI 0, vI 6, vI 0, vI c0] [(.int (0 : Int32))]))
    exact Go.retV X0 hx hlk hret rfl (Or.inl ⟨rfl, Or.inl rfl, _, rfl⟩) (hb hby d_jdk_52_method_21_code_25) (by decide) (by decide) (by rw [e0]; exact ⟨(0 : Int32), rfl, N0, KP0, ⟨by decide, y0⟩⟩)
  · skip
    refine Go.step (fun _ k => XS.icmpYes X0.here hx rfl (pc0 := 20) (pc' := 26) rfl (hb hby d_jdk_52_method_21_code_20) rfl (flt y0).2.2.2 (by decide) (by decide) k) ?_
    show Go p e below _ (s₁.setTop (mkF m 26 #[vR a1, vI 0, vR a2, vI 0, vI 6, vI 0, vI c0] []))
    refine Go.step (fun _ k => XS.aloadN X0.here hx rfl (hb hby d_jdk_52_method_21_code_26) rfl rfl k) ?_
    refine Go.step (fun _ k => XS.iloadN X0.here hx rfl (hb hby d_jdk_52_method_21_code_27) rfl  k) ?_
    refine Go.step (fun _ k => XS.iload X0.here hx rfl (hb hby d_jdk_52_method_21_code_28) rfl  k) ?_
    show Go p e below _ (s₁.setTop (mkF m 30 #[vR a1, vI 0, vR a2, vI 0, vI 6, vI 0, vI c0] [(.int c0), (.int (0 : Int32)), (.ref a2)]))
    refine Go.step (fun _ k => XS.i2b X0.here hx rfl (hb hby d_jdk_52_method_21_code_30) rfl k) ?_
    show Go p e below _ (s₁.setTop (mkF m 31 #[vR a1, vI 0, vR a2, vI 0, vI 6, vI 0, vI c0] [(.int c0.toInt8.toInt32), (.int (0 : Int32)), (.ref a2)]))
    have cp33 := A_a2
    obtain ⟨cl_32, Ar_32, ck_32, Sz_32, Ng_32, Hs_32, Gs_32⟩ := cp33
    have hin_32 : ¬ ((0 : Int32) < 0 ∨ cl_32.slots.size ≤ ((0 : Int32)).toNatClampNeg) := inb_of Sz_32 ⟨by decide, by decide⟩
    obtain ⟨T_32, h_32, X_32, e_32, W_32, st_32⟩ := stB X0 hx hZ e0 Ar_32 (j := (0 : Int32)) hin_32 (g := (mkF m 31 #[vR a1, vI 0, vR a2, vI 0, vI 6, vI 0, vI c0] [(.int c0.toInt8.toInt32), (.int (0 : Int32)), (.ref a2)])) rfl rfl (hb hby d_jdk_52_method_21_code_31)
    refine Go.step st_32 ?_
    have N_32 := Fr.snoc X_32 N0 g_a2
    have le_32 : h0.size ≤ h_32.size := Nat.le_of_eq W_32.size.symm
    have KP_32 := KP0.wr W_32 (Or.inl (List.mem_of_getElem? (i := 0) rfl))
    have O_32 := hO.wr W_32 g_a2
    have V_32 : Arv Z h_32 a2 k2 .byte (6 : Int32) [(.int c0.toInt8.toInt32), (.int (0 : Int32)), (.int (0 : Int32)), (.int (0 : Int32)), (.int (0 : Int32)), (.int (0 : Int32))] (.int (0 : Int32)) := by
      have q := Arv.set Ar_32 ck_32 Sz_32 Ng_32 Hs_32 Gs_32 (fits_nar_byte _) W_32 0 rfl (Nat.le_of_ble_eq_true rfl)
      rw [i8_i8] at q; exact q
    show Go p e below _ (T_32.setTop (mkF m 32 #[vR a1, vI 0, vR a2, vI 0, vI 6, vI 0, vI c0] []))
    refine Go.step (fun _ k => XS.iinc X_32.here hx rfl (hb hby d_jdk_52_method_21_code_32) rfl (l' := #[vR a1, vI ((0 : Int32) + (1 : Int32)), vR a2, vI 0, vI 6, vI 0, vI c0]) rfl k) ?_
    show Go p e below _ (T_32.setTop (mkF m 35 #[vR a1, vI ((0 : Int32) + (1 : Int32)), vR a2, vI 0, vI 6, vI 0, vI c0] []))
    rw [show ((0 : Int32) + (1 : Int32)) = (1 : Int32) from by decide]
    show Go p e below _ (T_32.setTop (mkF m 35 #[vR a1, vI 1, vR a2, vI 0, vI 6, vI 0, vI c0] []))
    refine Go.step (fun _ k => XS.iinc X_32.here hx rfl (hb hby d_jdk_52_method_21_code_35) rfl (l' := #[vR a1, vI 1, vR a2, vI ((0 : Int32) + (1 : Int32)), vI 6, vI 0, vI c0]) rfl k) ?_
    show Go p e below _ (T_32.setTop (mkF m 38 #[vR a1, vI 1, vR a2, vI ((0 : Int32) + (1 : Int32)), vI 6, vI 0, vI c0] []))
    rw [show ((0 : Int32) + (1 : Int32)) = (1 : Int32) from by decide]
    show Go p e below _ (T_32.setTop (mkF m 38 #[vR a1, vI 1, vR a2, vI 1, vI 6, vI 0, vI c0] []))
    refine Go.step (fun _ k => XS.iinc X_32.here hx rfl (hb hby d_jdk_52_method_21_code_38) rfl (l' := #[vR a1, vI 1, vR a2, vI 1, vI 6, vI ((0 : Int32) + (1 : Int32)), vI c0]) rfl k) ?_
    show Go p e below _ (T_32.setTop (mkF m 41 #[vR a1, vI 1, vR a2, vI 1, vI 6, vI ((0 : Int32) + (1 : Int32)), vI c0] []))
    rw [show ((0 : Int32) + (1 : Int32)) = (1 : Int32) from by decide]
    show Go p e below _ (T_32.setTop (mkF m 41 #[vR a1, vI 1, vR a2, vI 1, vI 6, vI 1, vI c0] []))
    refine Go.step (fun _ k => XS.goto X_32.here hx rfl (pc0 := 41) (pc' := 3) rfl (hb hby d_jdk_52_method_21_code_41) (by decide) (by decide) k) ?_
    show Go p e below _ (T_32.setTop (mkF m 3 #[vR a1, vI 1, vR a2, vI 1, vI 6, vI 1, vI c0] []))
    refine Go.step (fun _ k => XS.iload X_32.here hx rfl (hb hby d_jdk_52_method_21_code_3) rfl  k) ?_
    refine Go.step (fun _ k => XS.iload X_32.here hx rfl (hb hby d_jdk_52_method_21_code_5) rfl  k) ?_
    show Go p e below _ (T_32.setTop (mkF m 7 #[vR a1, vI 1, vR a2, vI 1, vI 6, vI 1, vI c0] [(.int (6 : Int32)), (.int (1 : Int32))]))
    refine Go.step (fun _ k => XS.icmpNo X_32.here hx rfl (hb hby d_jdk_52_method_21_code_7) rfl (tlt ((by decide) : (1 : Int32) < (6 : Int32))).2.1 k) ?_
    show Go p e below _ (T_32.setTop (mkF m 10 #[vR a1, vI 1, vR a2, vI 1, vI 6, vI 1, vI c0] []))
    refine Go.step (fun _ k => XS.aloadN X_32.here hx rfl (hb hby d_jdk_52_method_21_code_10) rfl rfl k) ?_
    refine Go.step (fun _ k => XS.iloadN X_32.here hx rfl (hb hby d_jdk_52_method_21_code_11) rfl  k) ?_
    show Go p e below _ (T_32.setTop (mkF m 12 #[vR a1, vI 1, vR a2, vI 1, vI 6, vI 1, vI c0] [(.int (1 : Int32)), (.ref a1)]))
    have f35 : Arv Z h_32 a1 k1 .char (6 : Int32) [(.int c0), (.int c1), (.int c2), (.int c3), (.int c4), (.int c5)] (.int (0 : Int32)) := (A_a1.other W_32 n12)
    have cp36 := f35
    obtain ⟨cl_34, Ar_34, -, Sz_34, -, Hs_34, -⟩ := cp36
    have hin_34 : ¬ ((1 : Int32) < 0 ∨ cl_34.slots.size ≤ ((1 : Int32)).toNatClampNeg) := (inb_of Sz_34 ⟨by decide, by decide⟩)
    have hat_34 : cl_34.slots[((1 : Int32)).toNatClampNeg]? = some (.int c1) := (Hs_34.at (inb_of Sz_34 ⟨by decide, by decide⟩) rfl)
    refine Go.step (fun _ k => X_32.caload hx (j := (1 : Int32)) (v := (.int c1)) (by rw [e_32]; exact Ar_34.1) (State.isArrayOf_alike hZ.alike Ar_34.2.1) Ar_34.2.2 hin_34 hat_34 (g := (mkF m 12 #[vR a1, vI 1, vR a2, vI 1, vI 6, vI 1, vI c0] [(.int (1 : Int32)), (.ref a1)])) rfl rfl (hb hby d_jdk_52_method_21_code_12) _ k) ?_
    show Go p e below _ (T_32.setTop (mkF m 13 #[vR a1, vI 1, vR a2, vI 1, vI 6, vI 1, vI c0] [(.int c1)]))
    refine Go.step (fun _ k => XS.istore X_32.here hx rfl (hb hby d_jdk_52_method_21_code_13) rfl (l' := #[vR a1, vI 1, vR a2, vI 1, vI 6, vI 1, vI c1]) rfl k) ?_
    show Go p e below _ (T_32.setTop (mkF m 15 #[vR a1, vI 1, vR a2, vI 1, vI 6, vI 1, vI c1] []))
    refine Go.step (fun _ k => XS.iload X_32.here hx rfl (hb hby d_jdk_52_method_21_code_15) rfl  k) ?_
    refine Go.step (fun _ k => XS.sipush X_32.here hx rfl (hb hby d_jdk_52_method_21_code_17) k) ?_
    show Go p e below _ (T_32.setTop (mkF m 20 #[vR a1, vI 1, vR a2, vI 1, vI 6, vI 1, vI c1] [(.int (255 : Int32)), (.int c1)]))
    by_cases y1 : (255 : Int32) < c1
    · skip
      refine Go.step (fun _ k => XS.icmpNo X_32.here hx rfl (hb hby d_jdk_52_method_21_code_20) rfl (tlt y1).2.2.2 k) ?_
      show Go p e below _ (T_32.setTop (mkF m 23 #[vR a1, vI 1, vR a2, vI 1, vI 6, vI 1, vI c1] []))
      refine Go.step (fun _ k => XS.iload X_32.here hx rfl (hb hby d_jdk_52_method_21_code_23) rfl  k) ?_
      show Go p e below _ (T_32.setTop (mkF m 25 #[vR a1, vI 1, vR a2, vI 1, vI 6, vI 1, vI c1] [(.int (1 : Int32))]))
      exact Go.retV X_32 hx hlk hret rfl (Or.inl ⟨rfl, Or.inl rfl, _, rfl⟩) (hb hby d_jdk_52_method_21_code_25) (by decide) (by decide) (by rw [e_32]; exact ⟨(1 : Int32), rfl, N_32, KP_32, ⟨by decide, y1⟩⟩)
    · skip
      refine Go.step (fun _ k => XS.icmpYes X_32.here hx rfl (pc0 := 20) (pc' := 26) rfl (hb hby d_jdk_52_method_21_code_20) rfl (flt y1).2.2.2 (by decide) (by decide) k) ?_
      show Go p e below _ (T_32.setTop (mkF m 26 #[vR a1, vI 1, vR a2, vI 1, vI 6, vI 1, vI c1] []))
      refine Go.step (fun _ k => XS.aloadN X_32.here hx rfl (hb hby d_jdk_52_method_21_code_26) rfl rfl k) ?_
      refine Go.step (fun _ k => XS.iloadN X_32.here hx rfl (hb hby d_jdk_52_method_21_code_27) rfl  k) ?_
      refine Go.step (fun _ k => XS.iload X_32.here hx rfl (hb hby d_jdk_52_method_21_code_28) rfl  k) ?_
      show Go p e below _ (T_32.setTop (mkF m 30 #[vR a1, vI 1, vR a2, vI 1, vI 6, vI 1, vI c1] [(.int c1), (.int (1 : Int32)), (.ref a2)]))
      refine Go.step (fun _ k => XS.i2b X_32.here hx rfl (hb hby d_jdk_52_method_21_code_30) rfl k) ?_
      show Go p e below _ (T_32.setTop (mkF m 31 #[vR a1, vI 1, vR a2, vI 1, vI 6, vI 1, vI c1] [(.int c1.toInt8.toInt32), (.int (1 : Int32)), (.ref a2)]))
      have cp38 := V_32
      obtain ⟨cl_37, Ar_37, ck_37, Sz_37, Ng_37, Hs_37, Gs_37⟩ := cp38
      have hin_37 : ¬ ((1 : Int32) < 0 ∨ cl_37.slots.size ≤ ((1 : Int32)).toNatClampNeg) := inb_of Sz_37 ⟨by decide, by decide⟩
      obtain ⟨T_37, h_37, X_37, e_37, W_37, st_37⟩ := stB X_32 hx hZ e_32 Ar_37 (j := (1 : Int32)) hin_37 (g := (mkF m 31 #[vR a1, vI 1, vR a2, vI 1, vI 6, vI 1, vI c1] [(.int c1.toInt8.toInt32), (.int (1 : Int32)), (.ref a2)])) rfl rfl (hb hby d_jdk_52_method_21_code_31)
      refine Go.step st_37 ?_
      have N_37 := Fr.snoc X_37 N_32 g_a2
      have le_37 : h_32.size ≤ h_37.size := Nat.le_of_eq W_37.size.symm
      have KP_37 := KP_32.wr W_37 (Or.inl (List.mem_of_getElem? (i := 0) rfl))
      have O_37 := O_32.wr W_37 g_a2
      have V_37 : Arv Z h_37 a2 k2 .byte (6 : Int32) [(.int c0.toInt8.toInt32), (.int c1.toInt8.toInt32), (.int (0 : Int32)), (.int (0 : Int32)), (.int (0 : Int32)), (.int (0 : Int32))] (.int (0 : Int32)) := by
        have q := Arv.set Ar_37 ck_37 Sz_37 Ng_37 Hs_37 Gs_37 (fits_nar_byte _) W_37 1 rfl (Nat.le_of_ble_eq_true rfl)
        rw [i8_i8] at q; exact q
      show Go p e below _ (T_37.setTop (mkF m 32 #[vR a1, vI 1, vR a2, vI 1, vI 6, vI 1, vI c1] []))
      refine Go.step (fun _ k => XS.iinc X_37.here hx rfl (hb hby d_jdk_52_method_21_code_32) rfl (l' := #[vR a1, vI ((1 : Int32) + (1 : Int32)), vR a2, vI 1, vI 6, vI 1, vI c1]) rfl k) ?_
      show Go p e below _ (T_37.setTop (mkF m 35 #[vR a1, vI ((1 : Int32) + (1 : Int32)), vR a2, vI 1, vI 6, vI 1, vI c1] []))
      rw [show ((1 : Int32) + (1 : Int32)) = (2 : Int32) from by decide]
      show Go p e below _ (T_37.setTop (mkF m 35 #[vR a1, vI 2, vR a2, vI 1, vI 6, vI 1, vI c1] []))
      refine Go.step (fun _ k => XS.iinc X_37.here hx rfl (hb hby d_jdk_52_method_21_code_35) rfl (l' := #[vR a1, vI 2, vR a2, vI ((1 : Int32) + (1 : Int32)), vI 6, vI 1, vI c1]) rfl k) ?_
      show Go p e below _ (T_37.setTop (mkF m 38 #[vR a1, vI 2, vR a2, vI ((1 : Int32) + (1 : Int32)), vI 6, vI 1, vI c1] []))
      rw [show ((1 : Int32) + (1 : Int32)) = (2 : Int32) from by decide]
      show Go p e below _ (T_37.setTop (mkF m 38 #[vR a1, vI 2, vR a2, vI 2, vI 6, vI 1, vI c1] []))
      refine Go.step (fun _ k => XS.iinc X_37.here hx rfl (hb hby d_jdk_52_method_21_code_38) rfl (l' := #[vR a1, vI 2, vR a2, vI 2, vI 6, vI ((1 : Int32) + (1 : Int32)), vI c1]) rfl k) ?_
      show Go p e below _ (T_37.setTop (mkF m 41 #[vR a1, vI 2, vR a2, vI 2, vI 6, vI ((1 : Int32) + (1 : Int32)), vI c1] []))
      rw [show ((1 : Int32) + (1 : Int32)) = (2 : Int32) from by decide]
      show Go p e below _ (T_37.setTop (mkF m 41 #[vR a1, vI 2, vR a2, vI 2, vI 6, vI 2, vI c1] []))
      refine Go.step (fun _ k => XS.goto X_37.here hx rfl (pc0 := 41) (pc' := 3) rfl (hb hby d_jdk_52_method_21_code_41) (by decide) (by decide) k) ?_
      show Go p e below _ (T_37.setTop (mkF m 3 #[vR a1, vI 2, vR a2, vI 2, vI 6, vI 2, vI c1] []))
      refine Go.step (fun _ k => XS.iload X_37.here hx rfl (hb hby d_jdk_52_method_21_code_3) rfl  k) ?_
      refine Go.step (fun _ k => XS.iload X_37.here hx rfl (hb hby d_jdk_52_method_21_code_5) rfl  k) ?_
      show Go p e below _ (T_37.setTop (mkF m 7 #[vR a1, vI 2, vR a2, vI 2, vI 6, vI 2, vI c1] [(.int (6 : Int32)), (.int (2 : Int32))]))
      refine Go.step (fun _ k => XS.icmpNo X_37.here hx rfl (hb hby d_jdk_52_method_21_code_7) rfl (tlt ((by decide) : (2 : Int32) < (6 : Int32))).2.1 k) ?_
      show Go p e below _ (T_37.setTop (mkF m 10 #[vR a1, vI 2, vR a2, vI 2, vI 6, vI 2, vI c1] []))
      refine Go.step (fun _ k => XS.aloadN X_37.here hx rfl (hb hby d_jdk_52_method_21_code_10) rfl rfl k) ?_
      refine Go.step (fun _ k => XS.iloadN X_37.here hx rfl (hb hby d_jdk_52_method_21_code_11) rfl  k) ?_
      show Go p e below _ (T_37.setTop (mkF m 12 #[vR a1, vI 2, vR a2, vI 2, vI 6, vI 2, vI c1] [(.int (2 : Int32)), (.ref a1)]))
      have f40 : Arv Z h_37 a1 k1 .char (6 : Int32) [(.int c0), (.int c1), (.int c2), (.int c3), (.int c4), (.int c5)] (.int (0 : Int32)) := (f35.other W_37 n12)
      have cp41 := f40
      obtain ⟨cl_39, Ar_39, -, Sz_39, -, Hs_39, -⟩ := cp41
      have hin_39 : ¬ ((2 : Int32) < 0 ∨ cl_39.slots.size ≤ ((2 : Int32)).toNatClampNeg) := (inb_of Sz_39 ⟨by decide, by decide⟩)
      have hat_39 : cl_39.slots[((2 : Int32)).toNatClampNeg]? = some (.int c2) := (Hs_39.at (inb_of Sz_39 ⟨by decide, by decide⟩) rfl)
      refine Go.step (fun _ k => X_37.caload hx (j := (2 : Int32)) (v := (.int c2)) (by rw [e_37]; exact Ar_39.1) (State.isArrayOf_alike hZ.alike Ar_39.2.1) Ar_39.2.2 hin_39 hat_39 (g := (mkF m 12 #[vR a1, vI 2, vR a2, vI 2, vI 6, vI 2, vI c1] [(.int (2 : Int32)), (.ref a1)])) rfl rfl (hb hby d_jdk_52_method_21_code_12) _ k) ?_
      show Go p e below _ (T_37.setTop (mkF m 13 #[vR a1, vI 2, vR a2, vI 2, vI 6, vI 2, vI c1] [(.int c2)]))
      refine Go.step (fun _ k => XS.istore X_37.here hx rfl (hb hby d_jdk_52_method_21_code_13) rfl (l' := #[vR a1, vI 2, vR a2, vI 2, vI 6, vI 2, vI c2]) rfl k) ?_
      show Go p e below _ (T_37.setTop (mkF m 15 #[vR a1, vI 2, vR a2, vI 2, vI 6, vI 2, vI c2] []))
      refine Go.step (fun _ k => XS.iload X_37.here hx rfl (hb hby d_jdk_52_method_21_code_15) rfl  k) ?_
      refine Go.step (fun _ k => XS.sipush X_37.here hx rfl (hb hby d_jdk_52_method_21_code_17) k) ?_
      show Go p e below _ (T_37.setTop (mkF m 20 #[vR a1, vI 2, vR a2, vI 2, vI 6, vI 2, vI c2] [(.int (255 : Int32)), (.int c2)]))
      by_cases y2 : (255 : Int32) < c2
      · skip
        refine Go.step (fun _ k => XS.icmpNo X_37.here hx rfl (hb hby d_jdk_52_method_21_code_20) rfl (tlt y2).2.2.2 k) ?_
        show Go p e below _ (T_37.setTop (mkF m 23 #[vR a1, vI 2, vR a2, vI 2, vI 6, vI 2, vI c2] []))
        refine Go.step (fun _ k => XS.iload X_37.here hx rfl (hb hby d_jdk_52_method_21_code_23) rfl  k) ?_
        show Go p e below _ (T_37.setTop (mkF m 25 #[vR a1, vI 2, vR a2, vI 2, vI 6, vI 2, vI c2] [(.int (2 : Int32))]))
        exact Go.retV X_37 hx hlk hret rfl (Or.inl ⟨rfl, Or.inl rfl, _, rfl⟩) (hb hby d_jdk_52_method_21_code_25) (by decide) (by decide) (by rw [e_37]; exact ⟨(2 : Int32), rfl, N_37, KP_37, ⟨by decide, y2⟩⟩)
      · skip
        refine Go.step (fun _ k => XS.icmpYes X_37.here hx rfl (pc0 := 20) (pc' := 26) rfl (hb hby d_jdk_52_method_21_code_20) rfl (flt y2).2.2.2 (by decide) (by decide) k) ?_
        show Go p e below _ (T_37.setTop (mkF m 26 #[vR a1, vI 2, vR a2, vI 2, vI 6, vI 2, vI c2] []))
        refine Go.step (fun _ k => XS.aloadN X_37.here hx rfl (hb hby d_jdk_52_method_21_code_26) rfl rfl k) ?_
        refine Go.step (fun _ k => XS.iloadN X_37.here hx rfl (hb hby d_jdk_52_method_21_code_27) rfl  k) ?_
        refine Go.step (fun _ k => XS.iload X_37.here hx rfl (hb hby d_jdk_52_method_21_code_28) rfl  k) ?_
        show Go p e below _ (T_37.setTop (mkF m 30 #[vR a1, vI 2, vR a2, vI 2, vI 6, vI 2, vI c2] [(.int c2), (.int (2 : Int32)), (.ref a2)]))
        refine Go.step (fun _ k => XS.i2b X_37.here hx rfl (hb hby d_jdk_52_method_21_code_30) rfl k) ?_
        show Go p e below _ (T_37.setTop (mkF m 31 #[vR a1, vI 2, vR a2, vI 2, vI 6, vI 2, vI c2] [(.int c2.toInt8.toInt32), (.int (2 : Int32)), (.ref a2)]))
        have cp43 := V_37
        obtain ⟨cl_42, Ar_42, ck_42, Sz_42, Ng_42, Hs_42, Gs_42⟩ := cp43
        have hin_42 : ¬ ((2 : Int32) < 0 ∨ cl_42.slots.size ≤ ((2 : Int32)).toNatClampNeg) := inb_of Sz_42 ⟨by decide, by decide⟩
        obtain ⟨T_42, h_42, X_42, e_42, W_42, st_42⟩ := stB X_37 hx hZ e_37 Ar_42 (j := (2 : Int32)) hin_42 (g := (mkF m 31 #[vR a1, vI 2, vR a2, vI 2, vI 6, vI 2, vI c2] [(.int c2.toInt8.toInt32), (.int (2 : Int32)), (.ref a2)])) rfl rfl (hb hby d_jdk_52_method_21_code_31)
        refine Go.step st_42 ?_
        have N_42 := Fr.snoc X_42 N_37 g_a2
        have le_42 : h_37.size ≤ h_42.size := Nat.le_of_eq W_42.size.symm
        have KP_42 := KP_37.wr W_42 (Or.inl (List.mem_of_getElem? (i := 0) rfl))
        have O_42 := O_37.wr W_42 g_a2
        have V_42 : Arv Z h_42 a2 k2 .byte (6 : Int32) [(.int c0.toInt8.toInt32), (.int c1.toInt8.toInt32), (.int c2.toInt8.toInt32), (.int (0 : Int32)), (.int (0 : Int32)), (.int (0 : Int32))] (.int (0 : Int32)) := by
          have q := Arv.set Ar_42 ck_42 Sz_42 Ng_42 Hs_42 Gs_42 (fits_nar_byte _) W_42 2 rfl (Nat.le_of_ble_eq_true rfl)
          rw [i8_i8] at q; exact q
        show Go p e below _ (T_42.setTop (mkF m 32 #[vR a1, vI 2, vR a2, vI 2, vI 6, vI 2, vI c2] []))
        refine Go.step (fun _ k => XS.iinc X_42.here hx rfl (hb hby d_jdk_52_method_21_code_32) rfl (l' := #[vR a1, vI ((2 : Int32) + (1 : Int32)), vR a2, vI 2, vI 6, vI 2, vI c2]) rfl k) ?_
        show Go p e below _ (T_42.setTop (mkF m 35 #[vR a1, vI ((2 : Int32) + (1 : Int32)), vR a2, vI 2, vI 6, vI 2, vI c2] []))
        rw [show ((2 : Int32) + (1 : Int32)) = (3 : Int32) from by decide]
        show Go p e below _ (T_42.setTop (mkF m 35 #[vR a1, vI 3, vR a2, vI 2, vI 6, vI 2, vI c2] []))
        refine Go.step (fun _ k => XS.iinc X_42.here hx rfl (hb hby d_jdk_52_method_21_code_35) rfl (l' := #[vR a1, vI 3, vR a2, vI ((2 : Int32) + (1 : Int32)), vI 6, vI 2, vI c2]) rfl k) ?_
        show Go p e below _ (T_42.setTop (mkF m 38 #[vR a1, vI 3, vR a2, vI ((2 : Int32) + (1 : Int32)), vI 6, vI 2, vI c2] []))
        rw [show ((2 : Int32) + (1 : Int32)) = (3 : Int32) from by decide]
        show Go p e below _ (T_42.setTop (mkF m 38 #[vR a1, vI 3, vR a2, vI 3, vI 6, vI 2, vI c2] []))
        refine Go.step (fun _ k => XS.iinc X_42.here hx rfl (hb hby d_jdk_52_method_21_code_38) rfl (l' := #[vR a1, vI 3, vR a2, vI 3, vI 6, vI ((2 : Int32) + (1 : Int32)), vI c2]) rfl k) ?_
        show Go p e below _ (T_42.setTop (mkF m 41 #[vR a1, vI 3, vR a2, vI 3, vI 6, vI ((2 : Int32) + (1 : Int32)), vI c2] []))
        rw [show ((2 : Int32) + (1 : Int32)) = (3 : Int32) from by decide]
        show Go p e below _ (T_42.setTop (mkF m 41 #[vR a1, vI 3, vR a2, vI 3, vI 6, vI 3, vI c2] []))
        refine Go.step (fun _ k => XS.goto X_42.here hx rfl (pc0 := 41) (pc' := 3) rfl (hb hby d_jdk_52_method_21_code_41) (by decide) (by decide) k) ?_
        show Go p e below _ (T_42.setTop (mkF m 3 #[vR a1, vI 3, vR a2, vI 3, vI 6, vI 3, vI c2] []))
        refine Go.step (fun _ k => XS.iload X_42.here hx rfl (hb hby d_jdk_52_method_21_code_3) rfl  k) ?_
        refine Go.step (fun _ k => XS.iload X_42.here hx rfl (hb hby d_jdk_52_method_21_code_5) rfl  k) ?_
        show Go p e below _ (T_42.setTop (mkF m 7 #[vR a1, vI 3, vR a2, vI 3, vI 6, vI 3, vI c2] [(.int (6 : Int32)), (.int (3 : Int32))]))
        refine Go.step (fun _ k => XS.icmpNo X_42.here hx rfl (hb hby d_jdk_52_method_21_code_7) rfl (tlt ((by decide) : (3 : Int32) < (6 : Int32))).2.1 k) ?_
        show Go p e below _ (T_42.setTop (mkF m 10 #[vR a1, vI 3, vR a2, vI 3, vI 6, vI 3, vI c2] []))
        refine Go.step (fun _ k => XS.aloadN X_42.here hx rfl (hb hby d_jdk_52_method_21_code_10) rfl rfl k) ?_
        refine Go.step (fun _ k => XS.iloadN X_42.here hx rfl (hb hby d_jdk_52_method_21_code_11) rfl  k) ?_
        show Go p e below _ (T_42.setTop (mkF m 12 #[vR a1, vI 3, vR a2, vI 3, vI 6, vI 3, vI c2] [(.int (3 : Int32)), (.ref a1)]))
        have f45 : Arv Z h_42 a1 k1 .char (6 : Int32) [(.int c0), (.int c1), (.int c2), (.int c3), (.int c4), (.int c5)] (.int (0 : Int32)) := (f40.other W_42 n12)
        have cp46 := f45
        obtain ⟨cl_44, Ar_44, -, Sz_44, -, Hs_44, -⟩ := cp46
        have hin_44 : ¬ ((3 : Int32) < 0 ∨ cl_44.slots.size ≤ ((3 : Int32)).toNatClampNeg) := (inb_of Sz_44 ⟨by decide, by decide⟩)
        have hat_44 : cl_44.slots[((3 : Int32)).toNatClampNeg]? = some (.int c3) := (Hs_44.at (inb_of Sz_44 ⟨by decide, by decide⟩) rfl)
        refine Go.step (fun _ k => X_42.caload hx (j := (3 : Int32)) (v := (.int c3)) (by rw [e_42]; exact Ar_44.1) (State.isArrayOf_alike hZ.alike Ar_44.2.1) Ar_44.2.2 hin_44 hat_44 (g := (mkF m 12 #[vR a1, vI 3, vR a2, vI 3, vI 6, vI 3, vI c2] [(.int (3 : Int32)), (.ref a1)])) rfl rfl (hb hby d_jdk_52_method_21_code_12) _ k) ?_
        show Go p e below _ (T_42.setTop (mkF m 13 #[vR a1, vI 3, vR a2, vI 3, vI 6, vI 3, vI c2] [(.int c3)]))
        refine Go.step (fun _ k => XS.istore X_42.here hx rfl (hb hby d_jdk_52_method_21_code_13) rfl (l' := #[vR a1, vI 3, vR a2, vI 3, vI 6, vI 3, vI c3]) rfl k) ?_
        show Go p e below _ (T_42.setTop (mkF m 15 #[vR a1, vI 3, vR a2, vI 3, vI 6, vI 3, vI c3] []))
        refine Go.step (fun _ k => XS.iload X_42.here hx rfl (hb hby d_jdk_52_method_21_code_15) rfl  k) ?_
        refine Go.step (fun _ k => XS.sipush X_42.here hx rfl (hb hby d_jdk_52_method_21_code_17) k) ?_
        show Go p e below _ (T_42.setTop (mkF m 20 #[vR a1, vI 3, vR a2, vI 3, vI 6, vI 3, vI c3] [(.int (255 : Int32)), (.int c3)]))
        by_cases y3 : (255 : Int32) < c3
        · skip
          refine Go.step (fun _ k => XS.icmpNo X_42.here hx rfl (hb hby d_jdk_52_method_21_code_20) rfl (tlt y3).2.2.2 k) ?_
          show Go p e below _ (T_42.setTop (mkF m 23 #[vR a1, vI 3, vR a2, vI 3, vI 6, vI 3, vI c3] []))
          refine Go.step (fun _ k => XS.iload X_42.here hx rfl (hb hby d_jdk_52_method_21_code_23) rfl  k) ?_
          show Go p e below _ (T_42.setTop (mkF m 25 #[vR a1, vI 3, vR a2, vI 3, vI 6, vI 3, vI c3] [(.int (3 : Int32))]))
          exact Go.retV X_42 hx hlk hret rfl (Or.inl ⟨rfl, Or.inl rfl, _, rfl⟩) (hb hby d_jdk_52_method_21_code_25) (by decide) (by decide) (by rw [e_42]; exact ⟨(3 : Int32), rfl, N_42, KP_42, ⟨by decide, y3⟩⟩)
        · skip
          refine Go.step (fun _ k => XS.icmpYes X_42.here hx rfl (pc0 := 20) (pc' := 26) rfl (hb hby d_jdk_52_method_21_code_20) rfl (flt y3).2.2.2 (by decide) (by decide) k) ?_
          show Go p e below _ (T_42.setTop (mkF m 26 #[vR a1, vI 3, vR a2, vI 3, vI 6, vI 3, vI c3] []))
          refine Go.step (fun _ k => XS.aloadN X_42.here hx rfl (hb hby d_jdk_52_method_21_code_26) rfl rfl k) ?_
          refine Go.step (fun _ k => XS.iloadN X_42.here hx rfl (hb hby d_jdk_52_method_21_code_27) rfl  k) ?_
          refine Go.step (fun _ k => XS.iload X_42.here hx rfl (hb hby d_jdk_52_method_21_code_28) rfl  k) ?_
          show Go p e below _ (T_42.setTop (mkF m 30 #[vR a1, vI 3, vR a2, vI 3, vI 6, vI 3, vI c3] [(.int c3), (.int (3 : Int32)), (.ref a2)]))
          refine Go.step (fun _ k => XS.i2b X_42.here hx rfl (hb hby d_jdk_52_method_21_code_30) rfl k) ?_
          show Go p e below _ (T_42.setTop (mkF m 31 #[vR a1, vI 3, vR a2, vI 3, vI 6, vI 3, vI c3] [(.int c3.toInt8.toInt32), (.int (3 : Int32)), (.ref a2)]))
          have cp48 := V_42
          obtain ⟨cl_47, Ar_47, ck_47, Sz_47, Ng_47, Hs_47, Gs_47⟩ := cp48
          have hin_47 : ¬ ((3 : Int32) < 0 ∨ cl_47.slots.size ≤ ((3 : Int32)).toNatClampNeg) := inb_of Sz_47 ⟨by decide, by decide⟩
          obtain ⟨T_47, h_47, X_47, e_47, W_47, st_47⟩ := stB X_42 hx hZ e_42 Ar_47 (j := (3 : Int32)) hin_47 (g := (mkF m 31 #[vR a1, vI 3, vR a2, vI 3, vI 6, vI 3, vI c3] [(.int c3.toInt8.toInt32), (.int (3 : Int32)), (.ref a2)])) rfl rfl (hb hby d_jdk_52_method_21_code_31)
          refine Go.step st_47 ?_
          have N_47 := Fr.snoc X_47 N_42 g_a2
          have le_47 : h_42.size ≤ h_47.size := Nat.le_of_eq W_47.size.symm
          have KP_47 := KP_42.wr W_47 (Or.inl (List.mem_of_getElem? (i := 0) rfl))
          have O_47 := O_42.wr W_47 g_a2
          have V_47 : Arv Z h_47 a2 k2 .byte (6 : Int32) [(.int c0.toInt8.toInt32), (.int c1.toInt8.toInt32), (.int c2.toInt8.toInt32), (.int c3.toInt8.toInt32), (.int (0 : Int32)), (.int (0 : Int32))] (.int (0 : Int32)) := by
            have q := Arv.set Ar_47 ck_47 Sz_47 Ng_47 Hs_47 Gs_47 (fits_nar_byte _) W_47 3 rfl (Nat.le_of_ble_eq_true rfl)
            rw [i8_i8] at q; exact q
          show Go p e below _ (T_47.setTop (mkF m 32 #[vR a1, vI 3, vR a2, vI 3, vI 6, vI 3, vI c3] []))
          refine Go.step (fun _ k => XS.iinc X_47.here hx rfl (hb hby d_jdk_52_method_21_code_32) rfl (l' := #[vR a1, vI ((3 : Int32) + (1 : Int32)), vR a2, vI 3, vI 6, vI 3, vI c3]) rfl k) ?_
          show Go p e below _ (T_47.setTop (mkF m 35 #[vR a1, vI ((3 : Int32) + (1 : Int32)), vR a2, vI 3, vI 6, vI 3, vI c3] []))
          rw [show ((3 : Int32) + (1 : Int32)) = (4 : Int32) from by decide]
          show Go p e below _ (T_47.setTop (mkF m 35 #[vR a1, vI 4, vR a2, vI 3, vI 6, vI 3, vI c3] []))
          refine Go.step (fun _ k => XS.iinc X_47.here hx rfl (hb hby d_jdk_52_method_21_code_35) rfl (l' := #[vR a1, vI 4, vR a2, vI ((3 : Int32) + (1 : Int32)), vI 6, vI 3, vI c3]) rfl k) ?_
          show Go p e below _ (T_47.setTop (mkF m 38 #[vR a1, vI 4, vR a2, vI ((3 : Int32) + (1 : Int32)), vI 6, vI 3, vI c3] []))
          rw [show ((3 : Int32) + (1 : Int32)) = (4 : Int32) from by decide]
          show Go p e below _ (T_47.setTop (mkF m 38 #[vR a1, vI 4, vR a2, vI 4, vI 6, vI 3, vI c3] []))
          refine Go.step (fun _ k => XS.iinc X_47.here hx rfl (hb hby d_jdk_52_method_21_code_38) rfl (l' := #[vR a1, vI 4, vR a2, vI 4, vI 6, vI ((3 : Int32) + (1 : Int32)), vI c3]) rfl k) ?_
          show Go p e below _ (T_47.setTop (mkF m 41 #[vR a1, vI 4, vR a2, vI 4, vI 6, vI ((3 : Int32) + (1 : Int32)), vI c3] []))
          rw [show ((3 : Int32) + (1 : Int32)) = (4 : Int32) from by decide]
          show Go p e below _ (T_47.setTop (mkF m 41 #[vR a1, vI 4, vR a2, vI 4, vI 6, vI 4, vI c3] []))
          refine Go.step (fun _ k => XS.goto X_47.here hx rfl (pc0 := 41) (pc' := 3) rfl (hb hby d_jdk_52_method_21_code_41) (by decide) (by decide) k) ?_
          show Go p e below _ (T_47.setTop (mkF m 3 #[vR a1, vI 4, vR a2, vI 4, vI 6, vI 4, vI c3] []))
          refine Go.step (fun _ k => XS.iload X_47.here hx rfl (hb hby d_jdk_52_method_21_code_3) rfl  k) ?_
          refine Go.step (fun _ k => XS.iload X_47.here hx rfl (hb hby d_jdk_52_method_21_code_5) rfl  k) ?_
          show Go p e below _ (T_47.setTop (mkF m 7 #[vR a1, vI 4, vR a2, vI 4, vI 6, vI 4, vI c3] [(.int (6 : Int32)), (.int (4 : Int32))]))
          refine Go.step (fun _ k => XS.icmpNo X_47.here hx rfl (hb hby d_jdk_52_method_21_code_7) rfl (tlt ((by decide) : (4 : Int32) < (6 : Int32))).2.1 k) ?_
          show Go p e below _ (T_47.setTop (mkF m 10 #[vR a1, vI 4, vR a2, vI 4, vI 6, vI 4, vI c3] []))
          refine Go.step (fun _ k => XS.aloadN X_47.here hx rfl (hb hby d_jdk_52_method_21_code_10) rfl rfl k) ?_
          refine Go.step (fun _ k => XS.iloadN X_47.here hx rfl (hb hby d_jdk_52_method_21_code_11) rfl  k) ?_
          show Go p e below _ (T_47.setTop (mkF m 12 #[vR a1, vI 4, vR a2, vI 4, vI 6, vI 4, vI c3] [(.int (4 : Int32)), (.ref a1)]))
          have f50 : Arv Z h_47 a1 k1 .char (6 : Int32) [(.int c0), (.int c1), (.int c2), (.int c3), (.int c4), (.int c5)] (.int (0 : Int32)) := (f45.other W_47 n12)
          have cp51 := f50
          obtain ⟨cl_49, Ar_49, -, Sz_49, -, Hs_49, -⟩ := cp51
          have hin_49 : ¬ ((4 : Int32) < 0 ∨ cl_49.slots.size ≤ ((4 : Int32)).toNatClampNeg) := (inb_of Sz_49 ⟨by decide, by decide⟩)
          have hat_49 : cl_49.slots[((4 : Int32)).toNatClampNeg]? = some (.int c4) := (Hs_49.at (inb_of Sz_49 ⟨by decide, by decide⟩) rfl)
          refine Go.step (fun _ k => X_47.caload hx (j := (4 : Int32)) (v := (.int c4)) (by rw [e_47]; exact Ar_49.1) (State.isArrayOf_alike hZ.alike Ar_49.2.1) Ar_49.2.2 hin_49 hat_49 (g := (mkF m 12 #[vR a1, vI 4, vR a2, vI 4, vI 6, vI 4, vI c3] [(.int (4 : Int32)), (.ref a1)])) rfl rfl (hb hby d_jdk_52_method_21_code_12) _ k) ?_
          show Go p e below _ (T_47.setTop (mkF m 13 #[vR a1, vI 4, vR a2, vI 4, vI 6, vI 4, vI c3] [(.int c4)]))
          refine Go.step (fun _ k => XS.istore X_47.here hx rfl (hb hby d_jdk_52_method_21_code_13) rfl (l' := #[vR a1, vI 4, vR a2, vI 4, vI 6, vI 4, vI c4]) rfl k) ?_
          show Go p e below _ (T_47.setTop (mkF m 15 #[vR a1, vI 4, vR a2, vI 4, vI 6, vI 4, vI c4] []))
          refine Go.step (fun _ k => XS.iload X_47.here hx rfl (hb hby d_jdk_52_method_21_code_15) rfl  k) ?_
          refine Go.step (fun _ k => XS.sipush X_47.here hx rfl (hb hby d_jdk_52_method_21_code_17) k) ?_
          show Go p e below _ (T_47.setTop (mkF m 20 #[vR a1, vI 4, vR a2, vI 4, vI 6, vI 4, vI c4] [(.int (255 : Int32)), (.int c4)]))
          by_cases y4 : (255 : Int32) < c4
          · skip
            refine Go.step (fun _ k => XS.icmpNo X_47.here hx rfl (hb hby d_jdk_52_method_21_code_20) rfl (tlt y4).2.2.2 k) ?_
            show Go p e below _ (T_47.setTop (mkF m 23 #[vR a1, vI 4, vR a2, vI 4, vI 6, vI 4, vI c4] []))
            refine Go.step (fun _ k => XS.iload X_47.here hx rfl (hb hby d_jdk_52_method_21_code_23) rfl  k) ?_
            show Go p e below _ (T_47.setTop (mkF m 25 #[vR a1, vI 4, vR a2, vI 4, vI 6, vI 4, vI c4] [(.int (4 : Int32))]))
            exact Go.retV X_47 hx hlk hret rfl (Or.inl ⟨rfl, Or.inl rfl, _, rfl⟩) (hb hby d_jdk_52_method_21_code_25) (by decide) (by decide) (by rw [e_47]; exact ⟨(4 : Int32), rfl, N_47, KP_47, ⟨by decide, y4⟩⟩)
          · skip
            refine Go.step (fun _ k => XS.icmpYes X_47.here hx rfl (pc0 := 20) (pc' := 26) rfl (hb hby d_jdk_52_method_21_code_20) rfl (flt y4).2.2.2 (by decide) (by decide) k) ?_
            show Go p e below _ (T_47.setTop (mkF m 26 #[vR a1, vI 4, vR a2, vI 4, vI 6, vI 4, vI c4] []))
            refine Go.step (fun _ k => XS.aloadN X_47.here hx rfl (hb hby d_jdk_52_method_21_code_26) rfl rfl k) ?_
            refine Go.step (fun _ k => XS.iloadN X_47.here hx rfl (hb hby d_jdk_52_method_21_code_27) rfl  k) ?_
            refine Go.step (fun _ k => XS.iload X_47.here hx rfl (hb hby d_jdk_52_method_21_code_28) rfl  k) ?_
            show Go p e below _ (T_47.setTop (mkF m 30 #[vR a1, vI 4, vR a2, vI 4, vI 6, vI 4, vI c4] [(.int c4), (.int (4 : Int32)), (.ref a2)]))
            refine Go.step (fun _ k => XS.i2b X_47.here hx rfl (hb hby d_jdk_52_method_21_code_30) rfl k) ?_
            show Go p e below _ (T_47.setTop (mkF m 31 #[vR a1, vI 4, vR a2, vI 4, vI 6, vI 4, vI c4] [(.int c4.toInt8.toInt32), (.int (4 : Int32)), (.ref a2)]))
            have cp53 := V_47
            obtain ⟨cl_52, Ar_52, ck_52, Sz_52, Ng_52, Hs_52, Gs_52⟩ := cp53
            have hin_52 : ¬ ((4 : Int32) < 0 ∨ cl_52.slots.size ≤ ((4 : Int32)).toNatClampNeg) := inb_of Sz_52 ⟨by decide, by decide⟩
            obtain ⟨T_52, h_52, X_52, e_52, W_52, st_52⟩ := stB X_47 hx hZ e_47 Ar_52 (j := (4 : Int32)) hin_52 (g := (mkF m 31 #[vR a1, vI 4, vR a2, vI 4, vI 6, vI 4, vI c4] [(.int c4.toInt8.toInt32), (.int (4 : Int32)), (.ref a2)])) rfl rfl (hb hby d_jdk_52_method_21_code_31)
            refine Go.step st_52 ?_
            have N_52 := Fr.snoc X_52 N_47 g_a2
            have le_52 : h_47.size ≤ h_52.size := Nat.le_of_eq W_52.size.symm
            have KP_52 := KP_47.wr W_52 (Or.inl (List.mem_of_getElem? (i := 0) rfl))
            have O_52 := O_47.wr W_52 g_a2
            have V_52 : Arv Z h_52 a2 k2 .byte (6 : Int32) [(.int c0.toInt8.toInt32), (.int c1.toInt8.toInt32), (.int c2.toInt8.toInt32), (.int c3.toInt8.toInt32), (.int c4.toInt8.toInt32), (.int (0 : Int32))] (.int (0 : Int32)) := by
              have q := Arv.set Ar_52 ck_52 Sz_52 Ng_52 Hs_52 Gs_52 (fits_nar_byte _) W_52 4 rfl (Nat.le_of_ble_eq_true rfl)
              rw [i8_i8] at q; exact q
            show Go p e below _ (T_52.setTop (mkF m 32 #[vR a1, vI 4, vR a2, vI 4, vI 6, vI 4, vI c4] []))
            refine Go.step (fun _ k => XS.iinc X_52.here hx rfl (hb hby d_jdk_52_method_21_code_32) rfl (l' := #[vR a1, vI ((4 : Int32) + (1 : Int32)), vR a2, vI 4, vI 6, vI 4, vI c4]) rfl k) ?_
            show Go p e below _ (T_52.setTop (mkF m 35 #[vR a1, vI ((4 : Int32) + (1 : Int32)), vR a2, vI 4, vI 6, vI 4, vI c4] []))
            rw [show ((4 : Int32) + (1 : Int32)) = (5 : Int32) from by decide]
            show Go p e below _ (T_52.setTop (mkF m 35 #[vR a1, vI 5, vR a2, vI 4, vI 6, vI 4, vI c4] []))
            refine Go.step (fun _ k => XS.iinc X_52.here hx rfl (hb hby d_jdk_52_method_21_code_35) rfl (l' := #[vR a1, vI 5, vR a2, vI ((4 : Int32) + (1 : Int32)), vI 6, vI 4, vI c4]) rfl k) ?_
            show Go p e below _ (T_52.setTop (mkF m 38 #[vR a1, vI 5, vR a2, vI ((4 : Int32) + (1 : Int32)), vI 6, vI 4, vI c4] []))
            rw [show ((4 : Int32) + (1 : Int32)) = (5 : Int32) from by decide]
            show Go p e below _ (T_52.setTop (mkF m 38 #[vR a1, vI 5, vR a2, vI 5, vI 6, vI 4, vI c4] []))
            refine Go.step (fun _ k => XS.iinc X_52.here hx rfl (hb hby d_jdk_52_method_21_code_38) rfl (l' := #[vR a1, vI 5, vR a2, vI 5, vI 6, vI ((4 : Int32) + (1 : Int32)), vI c4]) rfl k) ?_
            show Go p e below _ (T_52.setTop (mkF m 41 #[vR a1, vI 5, vR a2, vI 5, vI 6, vI ((4 : Int32) + (1 : Int32)), vI c4] []))
            rw [show ((4 : Int32) + (1 : Int32)) = (5 : Int32) from by decide]
            show Go p e below _ (T_52.setTop (mkF m 41 #[vR a1, vI 5, vR a2, vI 5, vI 6, vI 5, vI c4] []))
            refine Go.step (fun _ k => XS.goto X_52.here hx rfl (pc0 := 41) (pc' := 3) rfl (hb hby d_jdk_52_method_21_code_41) (by decide) (by decide) k) ?_
            show Go p e below _ (T_52.setTop (mkF m 3 #[vR a1, vI 5, vR a2, vI 5, vI 6, vI 5, vI c4] []))
            refine Go.step (fun _ k => XS.iload X_52.here hx rfl (hb hby d_jdk_52_method_21_code_3) rfl  k) ?_
            refine Go.step (fun _ k => XS.iload X_52.here hx rfl (hb hby d_jdk_52_method_21_code_5) rfl  k) ?_
            show Go p e below _ (T_52.setTop (mkF m 7 #[vR a1, vI 5, vR a2, vI 5, vI 6, vI 5, vI c4] [(.int (6 : Int32)), (.int (5 : Int32))]))
            refine Go.step (fun _ k => XS.icmpNo X_52.here hx rfl (hb hby d_jdk_52_method_21_code_7) rfl (tlt ((by decide) : (5 : Int32) < (6 : Int32))).2.1 k) ?_
            show Go p e below _ (T_52.setTop (mkF m 10 #[vR a1, vI 5, vR a2, vI 5, vI 6, vI 5, vI c4] []))
            refine Go.step (fun _ k => XS.aloadN X_52.here hx rfl (hb hby d_jdk_52_method_21_code_10) rfl rfl k) ?_
            refine Go.step (fun _ k => XS.iloadN X_52.here hx rfl (hb hby d_jdk_52_method_21_code_11) rfl  k) ?_
            show Go p e below _ (T_52.setTop (mkF m 12 #[vR a1, vI 5, vR a2, vI 5, vI 6, vI 5, vI c4] [(.int (5 : Int32)), (.ref a1)]))
            have f55 : Arv Z h_52 a1 k1 .char (6 : Int32) [(.int c0), (.int c1), (.int c2), (.int c3), (.int c4), (.int c5)] (.int (0 : Int32)) := (f50.other W_52 n12)
            have cp56 := f55
            obtain ⟨cl_54, Ar_54, -, Sz_54, -, Hs_54, -⟩ := cp56
            have hin_54 : ¬ ((5 : Int32) < 0 ∨ cl_54.slots.size ≤ ((5 : Int32)).toNatClampNeg) := (inb_of Sz_54 ⟨by decide, by decide⟩)
            have hat_54 : cl_54.slots[((5 : Int32)).toNatClampNeg]? = some (.int c5) := (Hs_54.at (inb_of Sz_54 ⟨by decide, by decide⟩) rfl)
            refine Go.step (fun _ k => X_52.caload hx (j := (5 : Int32)) (v := (.int c5)) (by rw [e_52]; exact Ar_54.1) (State.isArrayOf_alike hZ.alike Ar_54.2.1) Ar_54.2.2 hin_54 hat_54 (g := (mkF m 12 #[vR a1, vI 5, vR a2, vI 5, vI 6, vI 5, vI c4] [(.int (5 : Int32)), (.ref a1)])) rfl rfl (hb hby d_jdk_52_method_21_code_12) _ k) ?_
            show Go p e below _ (T_52.setTop (mkF m 13 #[vR a1, vI 5, vR a2, vI 5, vI 6, vI 5, vI c4] [(.int c5)]))
            refine Go.step (fun _ k => XS.istore X_52.here hx rfl (hb hby d_jdk_52_method_21_code_13) rfl (l' := #[vR a1, vI 5, vR a2, vI 5, vI 6, vI 5, vI c5]) rfl k) ?_
            show Go p e below _ (T_52.setTop (mkF m 15 #[vR a1, vI 5, vR a2, vI 5, vI 6, vI 5, vI c5] []))
            refine Go.step (fun _ k => XS.iload X_52.here hx rfl (hb hby d_jdk_52_method_21_code_15) rfl  k) ?_
            refine Go.step (fun _ k => XS.sipush X_52.here hx rfl (hb hby d_jdk_52_method_21_code_17) k) ?_
            show Go p e below _ (T_52.setTop (mkF m 20 #[vR a1, vI 5, vR a2, vI 5, vI 6, vI 5, vI c5] [(.int (255 : Int32)), (.int c5)]))
            by_cases y5 : (255 : Int32) < c5
            · skip
              refine Go.step (fun _ k => XS.icmpNo X_52.here hx rfl (hb hby d_jdk_52_method_21_code_20) rfl (tlt y5).2.2.2 k) ?_
              show Go p e below _ (T_52.setTop (mkF m 23 #[vR a1, vI 5, vR a2, vI 5, vI 6, vI 5, vI c5] []))
              refine Go.step (fun _ k => XS.iload X_52.here hx rfl (hb hby d_jdk_52_method_21_code_23) rfl  k) ?_
              show Go p e below _ (T_52.setTop (mkF m 25 #[vR a1, vI 5, vR a2, vI 5, vI 6, vI 5, vI c5] [(.int (5 : Int32))]))
              exact Go.retV X_52 hx hlk hret rfl (Or.inl ⟨rfl, Or.inl rfl, _, rfl⟩) (hb hby d_jdk_52_method_21_code_25) (by decide) (by decide) (by rw [e_52]; exact ⟨(5 : Int32), rfl, N_52, KP_52, ⟨by decide, y5⟩⟩)
            · skip
              refine Go.step (fun _ k => XS.icmpYes X_52.here hx rfl (pc0 := 20) (pc' := 26) rfl (hb hby d_jdk_52_method_21_code_20) rfl (flt y5).2.2.2 (by decide) (by decide) k) ?_
              show Go p e below _ (T_52.setTop (mkF m 26 #[vR a1, vI 5, vR a2, vI 5, vI 6, vI 5, vI c5] []))
              refine Go.step (fun _ k => XS.aloadN X_52.here hx rfl (hb hby d_jdk_52_method_21_code_26) rfl rfl k) ?_
              refine Go.step (fun _ k => XS.iloadN X_52.here hx rfl (hb hby d_jdk_52_method_21_code_27) rfl  k) ?_
              refine Go.step (fun _ k => XS.iload X_52.here hx rfl (hb hby d_jdk_52_method_21_code_28) rfl  k) ?_
              show Go p e below _ (T_52.setTop (mkF m 30 #[vR a1, vI 5, vR a2, vI 5, vI 6, vI 5, vI c5] [(.int c5), (.int (5 : Int32)), (.ref a2)]))
              refine Go.step (fun _ k => XS.i2b X_52.here hx rfl (hb hby d_jdk_52_method_21_code_30) rfl k) ?_
              show Go p e below _ (T_52.setTop (mkF m 31 #[vR a1, vI 5, vR a2, vI 5, vI 6, vI 5, vI c5] [(.int c5.toInt8.toInt32), (.int (5 : Int32)), (.ref a2)]))
              have cp58 := V_52
              obtain ⟨cl_57, Ar_57, ck_57, Sz_57, Ng_57, Hs_57, Gs_57⟩ := cp58
              have hin_57 : ¬ ((5 : Int32) < 0 ∨ cl_57.slots.size ≤ ((5 : Int32)).toNatClampNeg) := inb_of Sz_57 ⟨by decide, by decide⟩
              obtain ⟨T_57, h_57, X_57, e_57, W_57, st_57⟩ := stB X_52 hx hZ e_52 Ar_57 (j := (5 : Int32)) hin_57 (g := (mkF m 31 #[vR a1, vI 5, vR a2, vI 5, vI 6, vI 5, vI c5] [(.int c5.toInt8.toInt32), (.int (5 : Int32)), (.ref a2)])) rfl rfl (hb hby d_jdk_52_method_21_code_31)
              refine Go.step st_57 ?_
              have N_57 := Fr.snoc X_57 N_52 g_a2
              have le_57 : h_52.size ≤ h_57.size := Nat.le_of_eq W_57.size.symm
              have KP_57 := KP_52.wr W_57 (Or.inl (List.mem_of_getElem? (i := 0) rfl))
              have O_57 := O_52.wr W_57 g_a2
              have V_57 : Arv Z h_57 a2 k2 .byte (6 : Int32) [(.int c0.toInt8.toInt32), (.int c1.toInt8.toInt32), (.int c2.toInt8.toInt32), (.int c3.toInt8.toInt32), (.int c4.toInt8.toInt32), (.int c5.toInt8.toInt32)] (.int (0 : Int32)) := by
                have q := Arv.set Ar_57 ck_57 Sz_57 Ng_57 Hs_57 Gs_57 (fits_nar_byte _) W_57 5 rfl (Nat.le_of_ble_eq_true rfl)
                rw [i8_i8] at q; exact q
              show Go p e below _ (T_57.setTop (mkF m 32 #[vR a1, vI 5, vR a2, vI 5, vI 6, vI 5, vI c5] []))
              refine Go.step (fun _ k => XS.iinc X_57.here hx rfl (hb hby d_jdk_52_method_21_code_32) rfl (l' := #[vR a1, vI ((5 : Int32) + (1 : Int32)), vR a2, vI 5, vI 6, vI 5, vI c5]) rfl k) ?_
              show Go p e below _ (T_57.setTop (mkF m 35 #[vR a1, vI ((5 : Int32) + (1 : Int32)), vR a2, vI 5, vI 6, vI 5, vI c5] []))
              rw [show ((5 : Int32) + (1 : Int32)) = (6 : Int32) from by decide]
              show Go p e below _ (T_57.setTop (mkF m 35 #[vR a1, vI 6, vR a2, vI 5, vI 6, vI 5, vI c5] []))
              refine Go.step (fun _ k => XS.iinc X_57.here hx rfl (hb hby d_jdk_52_method_21_code_35) rfl (l' := #[vR a1, vI 6, vR a2, vI ((5 : Int32) + (1 : Int32)), vI 6, vI 5, vI c5]) rfl k) ?_
              show Go p e below _ (T_57.setTop (mkF m 38 #[vR a1, vI 6, vR a2, vI ((5 : Int32) + (1 : Int32)), vI 6, vI 5, vI c5] []))
              rw [show ((5 : Int32) + (1 : Int32)) = (6 : Int32) from by decide]
              show Go p e below _ (T_57.setTop (mkF m 38 #[vR a1, vI 6, vR a2, vI 6, vI 6, vI 5, vI c5] []))
              refine Go.step (fun _ k => XS.iinc X_57.here hx rfl (hb hby d_jdk_52_method_21_code_38) rfl (l' := #[vR a1, vI 6, vR a2, vI 6, vI 6, vI ((5 : Int32) + (1 : Int32)), vI c5]) rfl k) ?_
              show Go p e below _ (T_57.setTop (mkF m 41 #[vR a1, vI 6, vR a2, vI 6, vI 6, vI ((5 : Int32) + (1 : Int32)), vI c5] []))
              rw [show ((5 : Int32) + (1 : Int32)) = (6 : Int32) from by decide]
              show Go p e below _ (T_57.setTop (mkF m 41 #[vR a1, vI 6, vR a2, vI 6, vI 6, vI 6, vI c5] []))
              refine Go.step (fun _ k => XS.goto X_57.here hx rfl (pc0 := 41) (pc' := 3) rfl (hb hby d_jdk_52_method_21_code_41) (by decide) (by decide) k) ?_
              show Go p e below _ (T_57.setTop (mkF m 3 #[vR a1, vI 6, vR a2, vI 6, vI 6, vI 6, vI c5] []))
              refine Go.step (fun _ k => XS.iload X_57.here hx rfl (hb hby d_jdk_52_method_21_code_3) rfl  k) ?_
              refine Go.step (fun _ k => XS.iload X_57.here hx rfl (hb hby d_jdk_52_method_21_code_5) rfl  k) ?_
              show Go p e below _ (T_57.setTop (mkF m 7 #[vR a1, vI 6, vR a2, vI 6, vI 6, vI 6, vI c5] [(.int (6 : Int32)), (.int (6 : Int32))]))
              refine Go.step (fun _ k => XS.icmpYes X_57.here hx rfl (pc0 := 7) (pc' := 44) rfl (hb hby d_jdk_52_method_21_code_7) rfl (flt ((by decide) : ¬ ((6 : Int32) < (6 : Int32)))).2.1 (by decide) (by decide) k) ?_
              show Go p e below _ (T_57.setTop (mkF m 44 #[vR a1, vI 6, vR a2, vI 6, vI 6, vI 6, vI c5] []))
              exact absurd ⟨y0, y1, y2, y3, y4, y5⟩ hU
--@E
--@C nbl
def Q_nbl (Z : State) (zc : Int32) (vfm : Value) (h0 : Heap) (n0 : Nat) (v : Option Value) (h : Heap) (L : List Loc) : Prop := v = some (.int (12 : Int32)) ∧ Fr n0 L ∧ h = h0
set_option maxRecDepth 65536 in
set_option maxHeartbeats 40000000 in
theorem rm_nbl (l : Launch) (Z : State) (a0 : Array Value) (hw : ∀ d ∈ tables_1, d.before a0 Z = true) (zc : Int32) (vfm : Value) (h0 : Heap) (n0 : Nat) (Z0 : n0 ≤ h0.size) (hSt : St Z zc vfm) (hO : Old Z n0 h0) :
    CN l Z ({ cls := "java/lang/StringUTF16", name := "newBytesLength", desc := "(I)I" } : Jvm.MethodName) [(Jvm.Cond.code ({ cls := "java/lang/StringUTF16", name := "newBytesLength", desc := "(I)I" } : Jvm.MethodName) jdk_52_method_3_code (1 : Nat) (Option.some Jvm.ClassFile.FieldType.int))] ({ frames := 0, cells := 0, slots := 0, locals := 0 } : Room) #[(.int (6 : Int32))] h0 (Q_nbl Z zc vfm h0 n0) := by
  refine CN.of (L0 := #[vI 6]) (plainFor_of_name pn_1) (fun m => by first | (simp [entryFrame, mkF, argsToLocals, Value.category]; done) | rfl) ?_
  intro p e s m below meth c s₁ hx hby hml hret hlk hZ hown hnm X0 e0
  have N0 := Fr.nil n0
  have KP0 := Keep.refl h0 []
  have hSt_ := hSt
  obtain ⟨S_cs, n_cs, S_fm, r_fm, S_ad, S_hi, S_lo⟩ := hSt_
  show Go p e below _ (s₁.setTop (mkF m 0 #[vI 6] []))
  refine Go.step (fun _ k => XS.iloadN X0.here hx rfl (hb hby d_jdk_52_method_3_code_0) rfl  k) ?_
  show Go p e below _ (s₁.setTop (mkF m 1 #[vI 6] [(.int (6 : Int32))]))
  refine Go.step (fun _ k => XS.ifYes X0.here hx rfl (pc0 := 1) (pc' := 12) rfl (hb hby d_jdk_52_method_3_code_1) rfl ((if0 _ _).trans (flt ((by decide) : ¬ ((6 : Int32) < (0 : Int32)))).2.1) (by decide) (by decide) k) ?_
  show Go p e below _ (s₁.setTop (mkF m 12 #[vI 6] []))
  refine Go.step (fun _ k => XS.iloadN X0.here hx rfl (hb hby d_jdk_52_method_3_code_12) rfl  k) ?_
  show Go p e below _ (s₁.setTop (mkF m 13 #[vI 6] [(.int (6 : Int32))]))
  refine Go.step (fun _ k => X0.ldcInt hx hown (mvT hZ (wd_38 hw)) (g := (mkF m 13 #[vI 6] [(.int (6 : Int32))])) rfl (hb hby d_jdk_52_method_3_code_13) _ k) ?_
  show Go p e below _ (s₁.setTop (mkF m 15 #[vI 6] [(.int (1073741823 : Int32)), (.int (6 : Int32))]))
  refine Go.step (fun _ k => XS.icmpYes X0.here hx rfl (pc0 := 15) (pc' := 55) rfl (hb hby d_jdk_52_method_3_code_15) rfl (tlt ((by decide) : (6 : Int32) < (1073741823 : Int32))).1 (by decide) (by decide) k) ?_
  show Go p e below _ (s₁.setTop (mkF m 55 #[vI 6] []))
  refine Go.step (fun _ k => XS.iloadN X0.here hx rfl (hb hby d_jdk_52_method_3_code_55) rfl  k) ?_
  refine Go.step (fun _ k => XS.iconst X0.here hx rfl (hb hby d_jdk_52_method_3_code_56) k) ?_
  show Go p e below _ (s₁.setTop (mkF m 57 #[vI 6] [(.int (1 : Int32)), (.int (6 : Int32))]))
  refine Go.step (fun _ k => XS.ishl X0.here hx rfl (hb hby d_jdk_52_method_3_code_57) rfl k) ?_
  show Go p e below _ (s₁.setTop (mkF m 58 #[vI 6] [(.int ((6 : Int32) <<< ((1 : Int32) &&& 31)))]))
  refine own_top (congrArg Value.int (show ((6 : Int32) <<< ((1 : Int32) &&& 31)) = (12 : Int32) from by decide)) ?_
  show Go p e below _ (s₁.setTop (mkF m 58 #[vI 6] [(.int (12 : Int32))]))
  exact Go.retV X0 hx hlk hret rfl (Or.inl ⟨rfl, Or.inl rfl, _, rfl⟩) (hb hby d_jdk_52_method_3_code_58) (by decide) (by decide) (by rw [e0]; exact ⟨rfl, N0, rfl⟩)
--@E
--@C nbf
def Q_nbf (Z : State) (zc : Int32) (vfm : Value) (h0 : Heap) (n0 : Nat) (v : Option Value) (h : Heap) (L : List Loc) : Prop := ∃ (r : Addr) (kr : ClassId), v = some (.ref r) ∧ Fr n0 L ∧ Keep h0 h [] ∧ h0.size ≤ r ∧ Arv Z h r kr .byte (12 : Int32) [(.int (0 : Int32)), (.int (0 : Int32)), (.int (0 : Int32)), (.int (0 : Int32)), (.int (0 : Int32)), (.int (0 : Int32)), (.int (0 : Int32)), (.int (0 : Int32)), (.int (0 : Int32)), (.int (0 : Int32)), (.int (0 : Int32)), (.int (0 : Int32))] (.int (0 : Int32))
set_option maxRecDepth 65536 in
set_option maxHeartbeats 40000000 in
theorem rm_nbf (l : Launch) (Z : State) (a0 : Array Value) (hw : ∀ d ∈ tables_1, d.before a0 Z = true) (zc : Int32) (vfm : Value) (h0 : Heap) (n0 : Nat) (Z0 : n0 ≤ h0.size) (hSt : St Z zc vfm) (hO : Old Z n0 h0) :
    CN l Z ({ cls := "java/lang/StringUTF16", name := "newBytesFor", desc := "(I)[B" } : Jvm.MethodName) [(Jvm.Cond.code ({ cls := "java/lang/StringUTF16", name := "newBytesFor", desc := "(I)[B" } : Jvm.MethodName) jdk_52_method_2_code (1 : Nat) (Option.some (Jvm.ClassFile.FieldType.array Jvm.ClassFile.FieldType.byte)))] ({ frames := 1, cells := 1, slots := 12, locals := 12 } : Room) #[(.int (6 : Int32))] h0 (Q_nbf Z zc vfm h0 n0) := by
  refine CN.of (L0 := #[vI 6]) (plainFor_of_name pn_1) (fun m => by first | (simp [entryFrame, mkF, argsToLocals, Value.category]; done) | rfl) ?_
  intro p e s m below meth c s₁ hx hby hml hret hlk hZ hown hnm X0 e0
  have N0 := Fr.nil n0
  have KP0 := Keep.refl h0 []
  have hSt_ := hSt
  obtain ⟨S_cs, n_cs, S_fm, r_fm, S_ad, S_hi, S_lo⟩ := hSt_
  show Go p e below _ (s₁.setTop (mkF m 0 #[vI 6] []))
  refine Go.step (fun _ k => XS.iloadN X0.here hx rfl (hb hby d_jdk_52_method_2_code_0) rfl  k) ?_
  show Go p e below _ (s₁.setTop (mkF m 1 #[vI 6] [(.int (6 : Int32))]))
  obtain ⟨v_59, T_59, L_59, X_59, hQ_59, st_59⟩ := goS X0 hx hZ (y := Y_0) hown (wd_35 hw) (wd_36 hw) (wd_23 hw) (wd_37 hw) (by decide) (backOf (W := 0) (rm_nbl l Z a0 hw zc vfm h0 n0 (Nat.le_trans Z0 KP0.1) hSt hO) hZ (wd_37 hw) (wd_23 hw) (by decide) (by decide)) e0 (g := (mkF m 1 #[vI 6] [(.int (6 : Int32))])) rfl (by rw [hml]; rfl) (argsL := [(.int (6 : Int32))]) (rest := []) rfl (lenOf pd_0 rfl) rfl (by show 2 * 0 + _ ≤ _; exact Nat.le_of_eq rfl) (hb hby d_jdk_52_method_2_code_1) (by decide) (by decide)
  obtain ⟨rfl, Nq_59, e_59⟩ := hQ_59
  have N_59 := Fr.app N0 Nq_59
  refine Go.step st_59 ?_
  show Go p e below _ (T_59.setTop (mkF m 4 #[vI 6] [(.int (12 : Int32))]))
  obtain ⟨T_60, h_60, k_60, X_60, e_60, E_60, A_60, st_60⟩ := newP X_59 hx hZ (aty := .byte) (wd_25 hw) e_59 (g := (mkF m 4 #[vI 6] [(.int (12 : Int32))])) rfl (hb hby d_jdk_52_method_2_code_4) rfl (by decide) (cap := 12) (by decide) (by decide) (by decide) (by decide)
  obtain ⟨b60, q_60⟩ : ∃ z, z = h0.size := ⟨_, rfl⟩
  rw [← q_60] at A_60 st_60
  refine Go.step st_60 ?_
  have le_60 : h0.size ≤ h_60.size := E_60.1
  have KP_60 := KP0.ext E_60
  have O_60 := hO.ext E_60
  have ge_60 : h0.size ≤ b60 := Nat.le_of_eq q_60.symm
  have sz_b60 : h0.size ≤ b60 := Nat.le_trans (Nat.le_refl _) ge_60
  have g_b60 : n0 ≤ b60 := Nat.le_trans Z0 sz_b60
  have V_60 : Arv Z h_60 b60 k_60 .byte (12 : Int32) [(.int (0 : Int32)), (.int (0 : Int32)), (.int (0 : Int32)), (.int (0 : Int32)), (.int (0 : Int32)), (.int (0 : Int32)), (.int (0 : Int32)), (.int (0 : Int32)), (.int (0 : Int32)), (.int (0 : Int32)), (.int (0 : Int32)), (.int (0 : Int32))] (.int (0 : Int32)) := (Arv.new A_60 (by decide)).pad (pad_rep [] (.int (0 : Int32)) 12)
  show Go p e below _ (T_60.setTop (mkF m 6 #[vI 6] [(.ref b60)]))
  exact Go.retV X_60 hx hlk hret rfl (Or.inr (Or.inr (Or.inr (Or.inr ⟨rfl, rfl, rfl⟩)))) (hb hby d_jdk_52_method_2_code_6) (by decide) (by decide) (by rw [e_60]; exact ⟨b60, k_60, rfl, N_59, KP_60, sz_b60, V_60⟩)
--@E
--@C putc0
def Q_putc0 (Z : State) (zc : Int32) (vfm : Value) (a1 : Addr) (k1 : ClassId) (c1 : Int32) (x0 : Int32) (x1 : Int32) (x2 : Int32) (x3 : Int32) (x4 : Int32) (x5 : Int32) (x6 : Int32) (x7 : Int32) (x8 : Int32) (x9 : Int32) (x10 : Int32) (x11 : Int32) (h0 : Heap) (n0 : Nat) (v : Option Value) (h : Heap) (L : List Loc) : Prop := v = none ∧ Fr n0 L ∧ Keep h0 h [a1] ∧ Arv Z h a1 k1 .byte (12 : Int32) [(.int (lo8 c1)), (.int (hi8 c1)), (.int x2), (.int x3), (.int x4), (.int x5), (.int x6), (.int x7), (.int x8), (.int x9), (.int x10), (.int x11)] (.int (0 : Int32))
set_option maxRecDepth 65536 in
set_option maxHeartbeats 40000000 in
theorem rm_putc0 (l : Launch) (Z : State) (a0 : Array Value) (hw : ∀ d ∈ tables_1, d.before a0 Z = true) (zc : Int32) (vfm : Value) (a1 : Addr) (k1 : ClassId) (c1 : Int32) (x0 : Int32) (x1 : Int32) (x2 : Int32) (x3 : Int32) (x4 : Int32) (x5 : Int32) (x6 : Int32) (x7 : Int32) (x8 : Int32) (x9 : Int32) (x10 : Int32) (x11 : Int32) (h0 : Heap) (n0 : Nat) (Z0 : n0 ≤ h0.size) (A_a1 : Arv Z h0 a1 k1 .byte (12 : Int32) [(.int x0), (.int x1), (.int x2), (.int x3), (.int x4), (.int x5), (.int x6), (.int x7), (.int x8), (.int x9), (.int x10), (.int x11)] (.int (0 : Int32))) (g_a1 : n0 ≤ a1) (hSt : St Z zc vfm) (hO : Old Z n0 h0) :
    CN l Z ({ cls := "java/lang/StringUTF16", name := "putChar", desc := "([BII)V" } : Jvm.MethodName) [(Jvm.Cond.code ({ cls := "java/lang/StringUTF16", name := "putChar", desc := "([BII)V" } : Jvm.MethodName) jdk_52_method_4_code (3 : Nat) (Option.none : Option Jvm.ClassFile.FieldType))] ({ frames := 0, cells := 0, slots := 0, locals := 0 } : Room) #[(.ref a1), (.int (0 : Int32)), (.int c1)] h0 (Q_putc0 Z zc vfm a1 k1 c1 x0 x1 x2 x3 x4 x5 x6 x7 x8 x9 x10 x11 h0 n0) := by
  refine CN.of (L0 := #[vR a1, vI 0, vI c1]) (plainFor_of_name pn_1) (fun m => by first | (simp [entryFrame, mkF, argsToLocals, Value.category]; done) | rfl) ?_
  intro p e s m below meth c s₁ hx hby hml hret hlk hZ hown hnm X0 e0
  have N0 := Fr.nil n0
  have KP0 := Keep.refl h0 [a1]
  have hSt_ := hSt
  obtain ⟨S_cs, n_cs, S_fm, r_fm, S_ad, S_hi, S_lo⟩ := hSt_
  show Go p e below _ (s₁.setTop (mkF m 0 #[vR a1, vI 0, vI c1] []))
  obtain ⟨T_61, X_61, e_61, st_61⟩ := getS2 X0 hx hZ hown (host := "") (Or.inl (wd_42 hw)) Via.refl e0 (S_ad.ext hO.2) (g := (mkF m 0 #[vR a1, vI 0, vI c1] [])) rfl (hb hby d_jdk_52_method_4_code_0)
  refine Go.step st_61 ?_
  show Go p e below _ (T_61.setTop (mkF m 3 #[vR a1, vI 0, vI c1] [(.int (1 : Int32))]))
  refine Go.step (fun _ k => XS.ifYes X_61.here hx rfl (pc0 := 3) (pc' := 28) rfl (hb hby d_jdk_52_method_4_code_3) rfl ((if0 _ _).trans (feq ((by decide) : ¬ ((1 : Int32) = (0 : Int32)))).2) (by decide) (by decide) k) ?_
  show Go p e below _ (T_61.setTop (mkF m 28 #[vR a1, vI 0, vI c1] []))
  refine Go.step (fun _ k => XS.iloadN X_61.here hx rfl (hb hby d_jdk_52_method_4_code_28) rfl  k) ?_
  refine Go.step (fun _ k => XS.iconst X_61.here hx rfl (hb hby d_jdk_52_method_4_code_29) k) ?_
  show Go p e below _ (T_61.setTop (mkF m 30 #[vR a1, vI 0, vI c1] [(.int (1 : Int32)), (.int (0 : Int32))]))
  refine Go.step (fun _ k => XS.ishl X_61.here hx rfl (hb hby d_jdk_52_method_4_code_30) rfl k) ?_
  show Go p e below _ (T_61.setTop (mkF m 31 #[vR a1, vI 0, vI c1] [(.int ((0 : Int32) <<< ((1 : Int32) &&& 31)))]))
  refine own_top (congrArg Value.int (show ((0 : Int32) <<< ((1 : Int32) &&& 31)) = (0 : Int32) from by decide)) ?_
  show Go p e below _ (T_61.setTop (mkF m 31 #[vR a1, vI 0, vI c1] [(.int (0 : Int32))]))
  refine Go.step (fun _ k => XS.istoreN X_61.here hx rfl (hb hby d_jdk_52_method_4_code_31) rfl (l' := #[vR a1, vI 0, vI c1]) rfl k) ?_
  show Go p e below _ (T_61.setTop (mkF m 32 #[vR a1, vI 0, vI c1] []))
  refine Go.step (fun _ k => XS.aloadN X_61.here hx rfl (hb hby d_jdk_52_method_4_code_32) rfl rfl k) ?_
  refine Go.step (fun _ k => XS.iloadN X_61.here hx rfl (hb hby d_jdk_52_method_4_code_33) rfl  k) ?_
  show Go p e below _ (T_61.setTop (mkF m 34 #[vR a1, vI 0, vI c1] [(.int (0 : Int32)), (.ref a1)]))
  refine Go.step (fun _ k => XS.iinc X_61.here hx rfl (hb hby d_jdk_52_method_4_code_34) rfl (l' := #[vR a1, vI ((0 : Int32) + (1 : Int32)), vI c1]) rfl k) ?_
  show Go p e below _ (T_61.setTop (mkF m 37 #[vR a1, vI ((0 : Int32) + (1 : Int32)), vI c1] [(.int (0 : Int32)), (.ref a1)]))
  rw [show ((0 : Int32) + (1 : Int32)) = (1 : Int32) from by decide]
  show Go p e below _ (T_61.setTop (mkF m 37 #[vR a1, vI 1, vI c1] [(.int (0 : Int32)), (.ref a1)]))
  refine Go.step (fun _ k => XS.iloadN X_61.here hx rfl (hb hby d_jdk_52_method_4_code_37) rfl  k) ?_
  show Go p e below _ (T_61.setTop (mkF m 38 #[vR a1, vI 1, vI c1] [(.int c1), (.int (0 : Int32)), (.ref a1)]))
  obtain ⟨T_62, X_62, e_62, st_62⟩ := getS2 X_61 hx hZ hown (host := "") (Or.inl (wd_43 hw)) Via.refl e_61 (S_hi.ext hO.2) (g := (mkF m 38 #[vR a1, vI 1, vI c1] [(.int c1), (.int (0 : Int32)), (.ref a1)])) rfl (hb hby d_jdk_52_method_4_code_38)
  refine Go.step st_62 ?_
  show Go p e below _ (T_62.setTop (mkF m 41 #[vR a1, vI 1, vI c1] [(.int (0 : Int32)), (.int c1), (.int (0 : Int32)), (.ref a1)]))
  refine Go.step (fun _ k => XS.ishr X_62.here hx rfl (hb hby d_jdk_52_method_4_code_41) rfl k) ?_
  show Go p e below _ (T_62.setTop (mkF m 42 #[vR a1, vI 1, vI c1] [(.int (c1 >>> ((0 : Int32) &&& 31))), (.int (0 : Int32)), (.ref a1)]))
  refine Go.step (fun _ k => XS.i2b X_62.here hx rfl (hb hby d_jdk_52_method_4_code_42) rfl k) ?_
  show Go p e below _ (T_62.setTop (mkF m 43 #[vR a1, vI 1, vI c1] [(.int (c1 >>> ((0 : Int32) &&& 31)).toInt8.toInt32), (.int (0 : Int32)), (.ref a1)]))
  have cp64 := A_a1
  obtain ⟨cl_63, Ar_63, ck_63, Sz_63, Ng_63, Hs_63, Gs_63⟩ := cp64
  have hin_63 : ¬ ((0 : Int32) < 0 ∨ cl_63.slots.size ≤ ((0 : Int32)).toNatClampNeg) := inb_of Sz_63 ⟨by decide, by decide⟩
  obtain ⟨T_63, h_63, X_63, e_63, W_63, st_63⟩ := stB X_62 hx hZ e_62 Ar_63 (j := (0 : Int32)) hin_63 (g := (mkF m 43 #[vR a1, vI 1, vI c1] [(.int (c1 >>> ((0 : Int32) &&& 31)).toInt8.toInt32), (.int (0 : Int32)), (.ref a1)])) rfl rfl (hb hby d_jdk_52_method_4_code_43)
  refine Go.step st_63 ?_
  have N_63 := Fr.snoc X_63 N0 g_a1
  have le_63 : h0.size ≤ h_63.size := Nat.le_of_eq W_63.size.symm
  have KP_63 := KP0.wr W_63 (Or.inl (List.mem_of_getElem? (i := 0) rfl))
  have O_63 := hO.wr W_63 g_a1
  have V_63 : Arv Z h_63 a1 k1 .byte (12 : Int32) [(.int (lo8 c1)), (.int x1), (.int x2), (.int x3), (.int x4), (.int x5), (.int x6), (.int x7), (.int x8), (.int x9), (.int x10), (.int x11)] (.int (0 : Int32)) := by
    have q := Arv.set Ar_63 ck_63 Sz_63 Ng_63 Hs_63 Gs_63 (fits_nar_byte _) W_63 0 rfl (Nat.le_of_ble_eq_true rfl)
    rw [lo_eq] at q; exact q
  show Go p e below _ (T_63.setTop (mkF m 44 #[vR a1, vI 1, vI c1] []))
  refine Go.step (fun _ k => XS.aloadN X_63.here hx rfl (hb hby d_jdk_52_method_4_code_44) rfl rfl k) ?_
  refine Go.step (fun _ k => XS.iloadN X_63.here hx rfl (hb hby d_jdk_52_method_4_code_45) rfl  k) ?_
  refine Go.step (fun _ k => XS.iloadN X_63.here hx rfl (hb hby d_jdk_52_method_4_code_46) rfl  k) ?_
  show Go p e below _ (T_63.setTop (mkF m 47 #[vR a1, vI 1, vI c1] [(.int c1), (.int (1 : Int32)), (.ref a1)]))
  obtain ⟨T_65, X_65, e_65, st_65⟩ := getS2 X_63 hx hZ hown (host := "") (Or.inl (wd_44 hw)) Via.refl e_63 (S_lo.ext O_63.2) (g := (mkF m 47 #[vR a1, vI 1, vI c1] [(.int c1), (.int (1 : Int32)), (.ref a1)])) rfl (hb hby d_jdk_52_method_4_code_47)
  refine Go.step st_65 ?_
  show Go p e below _ (T_65.setTop (mkF m 50 #[vR a1, vI 1, vI c1] [(.int (8 : Int32)), (.int c1), (.int (1 : Int32)), (.ref a1)]))
  refine Go.step (fun _ k => XS.ishr X_65.here hx rfl (hb hby d_jdk_52_method_4_code_50) rfl k) ?_
  show Go p e below _ (T_65.setTop (mkF m 51 #[vR a1, vI 1, vI c1] [(.int (c1 >>> ((8 : Int32) &&& 31))), (.int (1 : Int32)), (.ref a1)]))
  refine Go.step (fun _ k => XS.i2b X_65.here hx rfl (hb hby d_jdk_52_method_4_code_51) rfl k) ?_
  show Go p e below _ (T_65.setTop (mkF m 52 #[vR a1, vI 1, vI c1] [(.int (c1 >>> ((8 : Int32) &&& 31)).toInt8.toInt32), (.int (1 : Int32)), (.ref a1)]))
  have cp67 := V_63
  obtain ⟨cl_66, Ar_66, ck_66, Sz_66, Ng_66, Hs_66, Gs_66⟩ := cp67
  have hin_66 : ¬ ((1 : Int32) < 0 ∨ cl_66.slots.size ≤ ((1 : Int32)).toNatClampNeg) := inb_of Sz_66 ⟨by decide, by decide⟩
  obtain ⟨T_66, h_66, X_66, e_66, W_66, st_66⟩ := stB X_65 hx hZ e_65 Ar_66 (j := (1 : Int32)) hin_66 (g := (mkF m 52 #[vR a1, vI 1, vI c1] [(.int (c1 >>> ((8 : Int32) &&& 31)).toInt8.toInt32), (.int (1 : Int32)), (.ref a1)])) rfl rfl (hb hby d_jdk_52_method_4_code_52)
  refine Go.step st_66 ?_
  have N_66 := Fr.snoc X_66 N_63 g_a1
  have le_66 : h_63.size ≤ h_66.size := Nat.le_of_eq W_66.size.symm
  have KP_66 := KP_63.wr W_66 (Or.inl (List.mem_of_getElem? (i := 0) rfl))
  have O_66 := O_63.wr W_66 g_a1
  have V_66 : Arv Z h_66 a1 k1 .byte (12 : Int32) [(.int (lo8 c1)), (.int (hi8 c1)), (.int x2), (.int x3), (.int x4), (.int x5), (.int x6), (.int x7), (.int x8), (.int x9), (.int x10), (.int x11)] (.int (0 : Int32)) := by
    have q := Arv.set Ar_66 ck_66 Sz_66 Ng_66 Hs_66 Gs_66 (fits_nar_byte _) W_66 1 rfl (Nat.le_of_ble_eq_true rfl)
    rw [hi_eq] at q; exact q
  show Go p e below _ (T_66.setTop (mkF m 53 #[vR a1, vI 1, vI c1] []))
  exact Go.ret0 X_66 hx hlk hret (hb hby d_jdk_52_method_4_code_53) (by decide) (by decide) (by rw [e_66]; exact ⟨rfl, N_66, KP_66, V_66⟩)
--@E
--@C putc1
def Q_putc1 (Z : State) (zc : Int32) (vfm : Value) (a1 : Addr) (k1 : ClassId) (c1 : Int32) (x0 : Int32) (x1 : Int32) (x2 : Int32) (x3 : Int32) (x4 : Int32) (x5 : Int32) (x6 : Int32) (x7 : Int32) (x8 : Int32) (x9 : Int32) (x10 : Int32) (x11 : Int32) (h0 : Heap) (n0 : Nat) (v : Option Value) (h : Heap) (L : List Loc) : Prop := v = none ∧ Fr n0 L ∧ Keep h0 h [a1] ∧ Arv Z h a1 k1 .byte (12 : Int32) [(.int x0), (.int x1), (.int (lo8 c1)), (.int (hi8 c1)), (.int x4), (.int x5), (.int x6), (.int x7), (.int x8), (.int x9), (.int x10), (.int x11)] (.int (0 : Int32))
set_option maxRecDepth 65536 in
set_option maxHeartbeats 40000000 in
theorem rm_putc1 (l : Launch) (Z : State) (a0 : Array Value) (hw : ∀ d ∈ tables_1, d.before a0 Z = true) (zc : Int32) (vfm : Value) (a1 : Addr) (k1 : ClassId) (c1 : Int32) (x0 : Int32) (x1 : Int32) (x2 : Int32) (x3 : Int32) (x4 : Int32) (x5 : Int32) (x6 : Int32) (x7 : Int32) (x8 : Int32) (x9 : Int32) (x10 : Int32) (x11 : Int32) (h0 : Heap) (n0 : Nat) (Z0 : n0 ≤ h0.size) (A_a1 : Arv Z h0 a1 k1 .byte (12 : Int32) [(.int x0), (.int x1), (.int x2), (.int x3), (.int x4), (.int x5), (.int x6), (.int x7), (.int x8), (.int x9), (.int x10), (.int x11)] (.int (0 : Int32))) (g_a1 : n0 ≤ a1) (hSt : St Z zc vfm) (hO : Old Z n0 h0) :
    CN l Z ({ cls := "java/lang/StringUTF16", name := "putChar", desc := "([BII)V" } : Jvm.MethodName) [(Jvm.Cond.code ({ cls := "java/lang/StringUTF16", name := "putChar", desc := "([BII)V" } : Jvm.MethodName) jdk_52_method_4_code (3 : Nat) (Option.none : Option Jvm.ClassFile.FieldType))] ({ frames := 0, cells := 0, slots := 0, locals := 0 } : Room) #[(.ref a1), (.int (1 : Int32)), (.int c1)] h0 (Q_putc1 Z zc vfm a1 k1 c1 x0 x1 x2 x3 x4 x5 x6 x7 x8 x9 x10 x11 h0 n0) := by
  refine CN.of (L0 := #[vR a1, vI 1, vI c1]) (plainFor_of_name pn_1) (fun m => by first | (simp [entryFrame, mkF, argsToLocals, Value.category]; done) | rfl) ?_
  intro p e s m below meth c s₁ hx hby hml hret hlk hZ hown hnm X0 e0
  have N0 := Fr.nil n0
  have KP0 := Keep.refl h0 [a1]
  have hSt_ := hSt
  obtain ⟨S_cs, n_cs, S_fm, r_fm, S_ad, S_hi, S_lo⟩ := hSt_
  show Go p e below _ (s₁.setTop (mkF m 0 #[vR a1, vI 1, vI c1] []))
  obtain ⟨T_68, X_68, e_68, st_68⟩ := getS2 X0 hx hZ hown (host := "") (Or.inl (wd_42 hw)) Via.refl e0 (S_ad.ext hO.2) (g := (mkF m 0 #[vR a1, vI 1, vI c1] [])) rfl (hb hby d_jdk_52_method_4_code_0)
  refine Go.step st_68 ?_
  show Go p e below _ (T_68.setTop (mkF m 3 #[vR a1, vI 1, vI c1] [(.int (1 : Int32))]))
  refine Go.step (fun _ k => XS.ifYes X_68.here hx rfl (pc0 := 3) (pc' := 28) rfl (hb hby d_jdk_52_method_4_code_3) rfl ((if0 _ _).trans (feq ((by decide) : ¬ ((1 : Int32) = (0 : Int32)))).2) (by decide) (by decide) k) ?_
  show Go p e below _ (T_68.setTop (mkF m 28 #[vR a1, vI 1, vI c1] []))
  refine Go.step (fun _ k => XS.iloadN X_68.here hx rfl (hb hby d_jdk_52_method_4_code_28) rfl  k) ?_
  refine Go.step (fun _ k => XS.iconst X_68.here hx rfl (hb hby d_jdk_52_method_4_code_29) k) ?_
  show Go p e below _ (T_68.setTop (mkF m 30 #[vR a1, vI 1, vI c1] [(.int (1 : Int32)), (.int (1 : Int32))]))
  refine Go.step (fun _ k => XS.ishl X_68.here hx rfl (hb hby d_jdk_52_method_4_code_30) rfl k) ?_
  show Go p e below _ (T_68.setTop (mkF m 31 #[vR a1, vI 1, vI c1] [(.int ((1 : Int32) <<< ((1 : Int32) &&& 31)))]))
  refine own_top (congrArg Value.int (show ((1 : Int32) <<< ((1 : Int32) &&& 31)) = (2 : Int32) from by decide)) ?_
  show Go p e below _ (T_68.setTop (mkF m 31 #[vR a1, vI 1, vI c1] [(.int (2 : Int32))]))
  refine Go.step (fun _ k => XS.istoreN X_68.here hx rfl (hb hby d_jdk_52_method_4_code_31) rfl (l' := #[vR a1, vI 2, vI c1]) rfl k) ?_
  show Go p e below _ (T_68.setTop (mkF m 32 #[vR a1, vI 2, vI c1] []))
  refine Go.step (fun _ k => XS.aloadN X_68.here hx rfl (hb hby d_jdk_52_method_4_code_32) rfl rfl k) ?_
  refine Go.step (fun _ k => XS.iloadN X_68.here hx rfl (hb hby d_jdk_52_method_4_code_33) rfl  k) ?_
  show Go p e below _ (T_68.setTop (mkF m 34 #[vR a1, vI 2, vI c1] [(.int (2 : Int32)), (.ref a1)]))
  refine Go.step (fun _ k => XS.iinc X_68.here hx rfl (hb hby d_jdk_52_method_4_code_34) rfl (l' := #[vR a1, vI ((2 : Int32) + (1 : Int32)), vI c1]) rfl k) ?_
  show Go p e below _ (T_68.setTop (mkF m 37 #[vR a1, vI ((2 : Int32) + (1 : Int32)), vI c1] [(.int (2 : Int32)), (.ref a1)]))
  rw [show ((2 : Int32) + (1 : Int32)) = (3 : Int32) from by decide]
  show Go p e below _ (T_68.setTop (mkF m 37 #[vR a1, vI 3, vI c1] [(.int (2 : Int32)), (.ref a1)]))
  refine Go.step (fun _ k => XS.iloadN X_68.here hx rfl (hb hby d_jdk_52_method_4_code_37) rfl  k) ?_
  show Go p e below _ (T_68.setTop (mkF m 38 #[vR a1, vI 3, vI c1] [(.int c1), (.int (2 : Int32)), (.ref a1)]))
  obtain ⟨T_69, X_69, e_69, st_69⟩ := getS2 X_68 hx hZ hown (host := "") (Or.inl (wd_43 hw)) Via.refl e_68 (S_hi.ext hO.2) (g := (mkF m 38 #[vR a1, vI 3, vI c1] [(.int c1), (.int (2 : Int32)), (.ref a1)])) rfl (hb hby d_jdk_52_method_4_code_38)
  refine Go.step st_69 ?_
  show Go p e below _ (T_69.setTop (mkF m 41 #[vR a1, vI 3, vI c1] [(.int (0 : Int32)), (.int c1), (.int (2 : Int32)), (.ref a1)]))
  refine Go.step (fun _ k => XS.ishr X_69.here hx rfl (hb hby d_jdk_52_method_4_code_41) rfl k) ?_
  show Go p e below _ (T_69.setTop (mkF m 42 #[vR a1, vI 3, vI c1] [(.int (c1 >>> ((0 : Int32) &&& 31))), (.int (2 : Int32)), (.ref a1)]))
  refine Go.step (fun _ k => XS.i2b X_69.here hx rfl (hb hby d_jdk_52_method_4_code_42) rfl k) ?_
  show Go p e below _ (T_69.setTop (mkF m 43 #[vR a1, vI 3, vI c1] [(.int (c1 >>> ((0 : Int32) &&& 31)).toInt8.toInt32), (.int (2 : Int32)), (.ref a1)]))
  have cp71 := A_a1
  obtain ⟨cl_70, Ar_70, ck_70, Sz_70, Ng_70, Hs_70, Gs_70⟩ := cp71
  have hin_70 : ¬ ((2 : Int32) < 0 ∨ cl_70.slots.size ≤ ((2 : Int32)).toNatClampNeg) := inb_of Sz_70 ⟨by decide, by decide⟩
  obtain ⟨T_70, h_70, X_70, e_70, W_70, st_70⟩ := stB X_69 hx hZ e_69 Ar_70 (j := (2 : Int32)) hin_70 (g := (mkF m 43 #[vR a1, vI 3, vI c1] [(.int (c1 >>> ((0 : Int32) &&& 31)).toInt8.toInt32), (.int (2 : Int32)), (.ref a1)])) rfl rfl (hb hby d_jdk_52_method_4_code_43)
  refine Go.step st_70 ?_
  have N_70 := Fr.snoc X_70 N0 g_a1
  have le_70 : h0.size ≤ h_70.size := Nat.le_of_eq W_70.size.symm
  have KP_70 := KP0.wr W_70 (Or.inl (List.mem_of_getElem? (i := 0) rfl))
  have O_70 := hO.wr W_70 g_a1
  have V_70 : Arv Z h_70 a1 k1 .byte (12 : Int32) [(.int x0), (.int x1), (.int (lo8 c1)), (.int x3), (.int x4), (.int x5), (.int x6), (.int x7), (.int x8), (.int x9), (.int x10), (.int x11)] (.int (0 : Int32)) := by
    have q := Arv.set Ar_70 ck_70 Sz_70 Ng_70 Hs_70 Gs_70 (fits_nar_byte _) W_70 2 rfl (Nat.le_of_ble_eq_true rfl)
    rw [lo_eq] at q; exact q
  show Go p e below _ (T_70.setTop (mkF m 44 #[vR a1, vI 3, vI c1] []))
  refine Go.step (fun _ k => XS.aloadN X_70.here hx rfl (hb hby d_jdk_52_method_4_code_44) rfl rfl k) ?_
  refine Go.step (fun _ k => XS.iloadN X_70.here hx rfl (hb hby d_jdk_52_method_4_code_45) rfl  k) ?_
  refine Go.step (fun _ k => XS.iloadN X_70.here hx rfl (hb hby d_jdk_52_method_4_code_46) rfl  k) ?_
  show Go p e below _ (T_70.setTop (mkF m 47 #[vR a1, vI 3, vI c1] [(.int c1), (.int (3 : Int32)), (.ref a1)]))
  obtain ⟨T_72, X_72, e_72, st_72⟩ := getS2 X_70 hx hZ hown (host := "") (Or.inl (wd_44 hw)) Via.refl e_70 (S_lo.ext O_70.2) (g := (mkF m 47 #[vR a1, vI 3, vI c1] [(.int c1), (.int (3 : Int32)), (.ref a1)])) rfl (hb hby d_jdk_52_method_4_code_47)
  refine Go.step st_72 ?_
  show Go p e below _ (T_72.setTop (mkF m 50 #[vR a1, vI 3, vI c1] [(.int (8 : Int32)), (.int c1), (.int (3 : Int32)), (.ref a1)]))
  refine Go.step (fun _ k => XS.ishr X_72.here hx rfl (hb hby d_jdk_52_method_4_code_50) rfl k) ?_
  show Go p e below _ (T_72.setTop (mkF m 51 #[vR a1, vI 3, vI c1] [(.int (c1 >>> ((8 : Int32) &&& 31))), (.int (3 : Int32)), (.ref a1)]))
  refine Go.step (fun _ k => XS.i2b X_72.here hx rfl (hb hby d_jdk_52_method_4_code_51) rfl k) ?_
  show Go p e below _ (T_72.setTop (mkF m 52 #[vR a1, vI 3, vI c1] [(.int (c1 >>> ((8 : Int32) &&& 31)).toInt8.toInt32), (.int (3 : Int32)), (.ref a1)]))
  have cp74 := V_70
  obtain ⟨cl_73, Ar_73, ck_73, Sz_73, Ng_73, Hs_73, Gs_73⟩ := cp74
  have hin_73 : ¬ ((3 : Int32) < 0 ∨ cl_73.slots.size ≤ ((3 : Int32)).toNatClampNeg) := inb_of Sz_73 ⟨by decide, by decide⟩
  obtain ⟨T_73, h_73, X_73, e_73, W_73, st_73⟩ := stB X_72 hx hZ e_72 Ar_73 (j := (3 : Int32)) hin_73 (g := (mkF m 52 #[vR a1, vI 3, vI c1] [(.int (c1 >>> ((8 : Int32) &&& 31)).toInt8.toInt32), (.int (3 : Int32)), (.ref a1)])) rfl rfl (hb hby d_jdk_52_method_4_code_52)
  refine Go.step st_73 ?_
  have N_73 := Fr.snoc X_73 N_70 g_a1
  have le_73 : h_70.size ≤ h_73.size := Nat.le_of_eq W_73.size.symm
  have KP_73 := KP_70.wr W_73 (Or.inl (List.mem_of_getElem? (i := 0) rfl))
  have O_73 := O_70.wr W_73 g_a1
  have V_73 : Arv Z h_73 a1 k1 .byte (12 : Int32) [(.int x0), (.int x1), (.int (lo8 c1)), (.int (hi8 c1)), (.int x4), (.int x5), (.int x6), (.int x7), (.int x8), (.int x9), (.int x10), (.int x11)] (.int (0 : Int32)) := by
    have q := Arv.set Ar_73 ck_73 Sz_73 Ng_73 Hs_73 Gs_73 (fits_nar_byte _) W_73 3 rfl (Nat.le_of_ble_eq_true rfl)
    rw [hi_eq] at q; exact q
  show Go p e below _ (T_73.setTop (mkF m 53 #[vR a1, vI 3, vI c1] []))
  exact Go.ret0 X_73 hx hlk hret (hb hby d_jdk_52_method_4_code_53) (by decide) (by decide) (by rw [e_73]; exact ⟨rfl, N_73, KP_73, V_73⟩)
--@E
--@C putc2
def Q_putc2 (Z : State) (zc : Int32) (vfm : Value) (a1 : Addr) (k1 : ClassId) (c1 : Int32) (x0 : Int32) (x1 : Int32) (x2 : Int32) (x3 : Int32) (x4 : Int32) (x5 : Int32) (x6 : Int32) (x7 : Int32) (x8 : Int32) (x9 : Int32) (x10 : Int32) (x11 : Int32) (h0 : Heap) (n0 : Nat) (v : Option Value) (h : Heap) (L : List Loc) : Prop := v = none ∧ Fr n0 L ∧ Keep h0 h [a1] ∧ Arv Z h a1 k1 .byte (12 : Int32) [(.int x0), (.int x1), (.int x2), (.int x3), (.int (lo8 c1)), (.int (hi8 c1)), (.int x6), (.int x7), (.int x8), (.int x9), (.int x10), (.int x11)] (.int (0 : Int32))
set_option maxRecDepth 65536 in
set_option maxHeartbeats 40000000 in
theorem rm_putc2 (l : Launch) (Z : State) (a0 : Array Value) (hw : ∀ d ∈ tables_1, d.before a0 Z = true) (zc : Int32) (vfm : Value) (a1 : Addr) (k1 : ClassId) (c1 : Int32) (x0 : Int32) (x1 : Int32) (x2 : Int32) (x3 : Int32) (x4 : Int32) (x5 : Int32) (x6 : Int32) (x7 : Int32) (x8 : Int32) (x9 : Int32) (x10 : Int32) (x11 : Int32) (h0 : Heap) (n0 : Nat) (Z0 : n0 ≤ h0.size) (A_a1 : Arv Z h0 a1 k1 .byte (12 : Int32) [(.int x0), (.int x1), (.int x2), (.int x3), (.int x4), (.int x5), (.int x6), (.int x7), (.int x8), (.int x9), (.int x10), (.int x11)] (.int (0 : Int32))) (g_a1 : n0 ≤ a1) (hSt : St Z zc vfm) (hO : Old Z n0 h0) :
    CN l Z ({ cls := "java/lang/StringUTF16", name := "putChar", desc := "([BII)V" } : Jvm.MethodName) [(Jvm.Cond.code ({ cls := "java/lang/StringUTF16", name := "putChar", desc := "([BII)V" } : Jvm.MethodName) jdk_52_method_4_code (3 : Nat) (Option.none : Option Jvm.ClassFile.FieldType))] ({ frames := 0, cells := 0, slots := 0, locals := 0 } : Room) #[(.ref a1), (.int (2 : Int32)), (.int c1)] h0 (Q_putc2 Z zc vfm a1 k1 c1 x0 x1 x2 x3 x4 x5 x6 x7 x8 x9 x10 x11 h0 n0) := by
  refine CN.of (L0 := #[vR a1, vI 2, vI c1]) (plainFor_of_name pn_1) (fun m => by first | (simp [entryFrame, mkF, argsToLocals, Value.category]; done) | rfl) ?_
  intro p e s m below meth c s₁ hx hby hml hret hlk hZ hown hnm X0 e0
  have N0 := Fr.nil n0
  have KP0 := Keep.refl h0 [a1]
  have hSt_ := hSt
  obtain ⟨S_cs, n_cs, S_fm, r_fm, S_ad, S_hi, S_lo⟩ := hSt_
  show Go p e below _ (s₁.setTop (mkF m 0 #[vR a1, vI 2, vI c1] []))
  obtain ⟨T_75, X_75, e_75, st_75⟩ := getS2 X0 hx hZ hown (host := "") (Or.inl (wd_42 hw)) Via.refl e0 (S_ad.ext hO.2) (g := (mkF m 0 #[vR a1, vI 2, vI c1] [])) rfl (hb hby d_jdk_52_method_4_code_0)
  refine Go.step st_75 ?_
  show Go p e below _ (T_75.setTop (mkF m 3 #[vR a1, vI 2, vI c1] [(.int (1 : Int32))]))
  refine Go.step (fun _ k => XS.ifYes X_75.here hx rfl (pc0 := 3) (pc' := 28) rfl (hb hby d_jdk_52_method_4_code_3) rfl ((if0 _ _).trans (feq ((by decide) : ¬ ((1 : Int32) = (0 : Int32)))).2) (by decide) (by decide) k) ?_
  show Go p e below _ (T_75.setTop (mkF m 28 #[vR a1, vI 2, vI c1] []))
  refine Go.step (fun _ k => XS.iloadN X_75.here hx rfl (hb hby d_jdk_52_method_4_code_28) rfl  k) ?_
  refine Go.step (fun _ k => XS.iconst X_75.here hx rfl (hb hby d_jdk_52_method_4_code_29) k) ?_
  show Go p e below _ (T_75.setTop (mkF m 30 #[vR a1, vI 2, vI c1] [(.int (1 : Int32)), (.int (2 : Int32))]))
  refine Go.step (fun _ k => XS.ishl X_75.here hx rfl (hb hby d_jdk_52_method_4_code_30) rfl k) ?_
  show Go p e below _ (T_75.setTop (mkF m 31 #[vR a1, vI 2, vI c1] [(.int ((2 : Int32) <<< ((1 : Int32) &&& 31)))]))
  refine own_top (congrArg Value.int (show ((2 : Int32) <<< ((1 : Int32) &&& 31)) = (4 : Int32) from by decide)) ?_
  show Go p e below _ (T_75.setTop (mkF m 31 #[vR a1, vI 2, vI c1] [(.int (4 : Int32))]))
  refine Go.step (fun _ k => XS.istoreN X_75.here hx rfl (hb hby d_jdk_52_method_4_code_31) rfl (l' := #[vR a1, vI 4, vI c1]) rfl k) ?_
  show Go p e below _ (T_75.setTop (mkF m 32 #[vR a1, vI 4, vI c1] []))
  refine Go.step (fun _ k => XS.aloadN X_75.here hx rfl (hb hby d_jdk_52_method_4_code_32) rfl rfl k) ?_
  refine Go.step (fun _ k => XS.iloadN X_75.here hx rfl (hb hby d_jdk_52_method_4_code_33) rfl  k) ?_
  show Go p e below _ (T_75.setTop (mkF m 34 #[vR a1, vI 4, vI c1] [(.int (4 : Int32)), (.ref a1)]))
  refine Go.step (fun _ k => XS.iinc X_75.here hx rfl (hb hby d_jdk_52_method_4_code_34) rfl (l' := #[vR a1, vI ((4 : Int32) + (1 : Int32)), vI c1]) rfl k) ?_
  show Go p e below _ (T_75.setTop (mkF m 37 #[vR a1, vI ((4 : Int32) + (1 : Int32)), vI c1] [(.int (4 : Int32)), (.ref a1)]))
  rw [show ((4 : Int32) + (1 : Int32)) = (5 : Int32) from by decide]
  show Go p e below _ (T_75.setTop (mkF m 37 #[vR a1, vI 5, vI c1] [(.int (4 : Int32)), (.ref a1)]))
  refine Go.step (fun _ k => XS.iloadN X_75.here hx rfl (hb hby d_jdk_52_method_4_code_37) rfl  k) ?_
  show Go p e below _ (T_75.setTop (mkF m 38 #[vR a1, vI 5, vI c1] [(.int c1), (.int (4 : Int32)), (.ref a1)]))
  obtain ⟨T_76, X_76, e_76, st_76⟩ := getS2 X_75 hx hZ hown (host := "") (Or.inl (wd_43 hw)) Via.refl e_75 (S_hi.ext hO.2) (g := (mkF m 38 #[vR a1, vI 5, vI c1] [(.int c1), (.int (4 : Int32)), (.ref a1)])) rfl (hb hby d_jdk_52_method_4_code_38)
  refine Go.step st_76 ?_
  show Go p e below _ (T_76.setTop (mkF m 41 #[vR a1, vI 5, vI c1] [(.int (0 : Int32)), (.int c1), (.int (4 : Int32)), (.ref a1)]))
  refine Go.step (fun _ k => XS.ishr X_76.here hx rfl (hb hby d_jdk_52_method_4_code_41) rfl k) ?_
  show Go p e below _ (T_76.setTop (mkF m 42 #[vR a1, vI 5, vI c1] [(.int (c1 >>> ((0 : Int32) &&& 31))), (.int (4 : Int32)), (.ref a1)]))
  refine Go.step (fun _ k => XS.i2b X_76.here hx rfl (hb hby d_jdk_52_method_4_code_42) rfl k) ?_
  show Go p e below _ (T_76.setTop (mkF m 43 #[vR a1, vI 5, vI c1] [(.int (c1 >>> ((0 : Int32) &&& 31)).toInt8.toInt32), (.int (4 : Int32)), (.ref a1)]))
  have cp78 := A_a1
  obtain ⟨cl_77, Ar_77, ck_77, Sz_77, Ng_77, Hs_77, Gs_77⟩ := cp78
  have hin_77 : ¬ ((4 : Int32) < 0 ∨ cl_77.slots.size ≤ ((4 : Int32)).toNatClampNeg) := inb_of Sz_77 ⟨by decide, by decide⟩
  obtain ⟨T_77, h_77, X_77, e_77, W_77, st_77⟩ := stB X_76 hx hZ e_76 Ar_77 (j := (4 : Int32)) hin_77 (g := (mkF m 43 #[vR a1, vI 5, vI c1] [(.int (c1 >>> ((0 : Int32) &&& 31)).toInt8.toInt32), (.int (4 : Int32)), (.ref a1)])) rfl rfl (hb hby d_jdk_52_method_4_code_43)
  refine Go.step st_77 ?_
  have N_77 := Fr.snoc X_77 N0 g_a1
  have le_77 : h0.size ≤ h_77.size := Nat.le_of_eq W_77.size.symm
  have KP_77 := KP0.wr W_77 (Or.inl (List.mem_of_getElem? (i := 0) rfl))
  have O_77 := hO.wr W_77 g_a1
  have V_77 : Arv Z h_77 a1 k1 .byte (12 : Int32) [(.int x0), (.int x1), (.int x2), (.int x3), (.int (lo8 c1)), (.int x5), (.int x6), (.int x7), (.int x8), (.int x9), (.int x10), (.int x11)] (.int (0 : Int32)) := by
    have q := Arv.set Ar_77 ck_77 Sz_77 Ng_77 Hs_77 Gs_77 (fits_nar_byte _) W_77 4 rfl (Nat.le_of_ble_eq_true rfl)
    rw [lo_eq] at q; exact q
  show Go p e below _ (T_77.setTop (mkF m 44 #[vR a1, vI 5, vI c1] []))
  refine Go.step (fun _ k => XS.aloadN X_77.here hx rfl (hb hby d_jdk_52_method_4_code_44) rfl rfl k) ?_
  refine Go.step (fun _ k => XS.iloadN X_77.here hx rfl (hb hby d_jdk_52_method_4_code_45) rfl  k) ?_
  refine Go.step (fun _ k => XS.iloadN X_77.here hx rfl (hb hby d_jdk_52_method_4_code_46) rfl  k) ?_
  show Go p e below _ (T_77.setTop (mkF m 47 #[vR a1, vI 5, vI c1] [(.int c1), (.int (5 : Int32)), (.ref a1)]))
  obtain ⟨T_79, X_79, e_79, st_79⟩ := getS2 X_77 hx hZ hown (host := "") (Or.inl (wd_44 hw)) Via.refl e_77 (S_lo.ext O_77.2) (g := (mkF m 47 #[vR a1, vI 5, vI c1] [(.int c1), (.int (5 : Int32)), (.ref a1)])) rfl (hb hby d_jdk_52_method_4_code_47)
  refine Go.step st_79 ?_
  show Go p e below _ (T_79.setTop (mkF m 50 #[vR a1, vI 5, vI c1] [(.int (8 : Int32)), (.int c1), (.int (5 : Int32)), (.ref a1)]))
  refine Go.step (fun _ k => XS.ishr X_79.here hx rfl (hb hby d_jdk_52_method_4_code_50) rfl k) ?_
  show Go p e below _ (T_79.setTop (mkF m 51 #[vR a1, vI 5, vI c1] [(.int (c1 >>> ((8 : Int32) &&& 31))), (.int (5 : Int32)), (.ref a1)]))
  refine Go.step (fun _ k => XS.i2b X_79.here hx rfl (hb hby d_jdk_52_method_4_code_51) rfl k) ?_
  show Go p e below _ (T_79.setTop (mkF m 52 #[vR a1, vI 5, vI c1] [(.int (c1 >>> ((8 : Int32) &&& 31)).toInt8.toInt32), (.int (5 : Int32)), (.ref a1)]))
  have cp81 := V_77
  obtain ⟨cl_80, Ar_80, ck_80, Sz_80, Ng_80, Hs_80, Gs_80⟩ := cp81
  have hin_80 : ¬ ((5 : Int32) < 0 ∨ cl_80.slots.size ≤ ((5 : Int32)).toNatClampNeg) := inb_of Sz_80 ⟨by decide, by decide⟩
  obtain ⟨T_80, h_80, X_80, e_80, W_80, st_80⟩ := stB X_79 hx hZ e_79 Ar_80 (j := (5 : Int32)) hin_80 (g := (mkF m 52 #[vR a1, vI 5, vI c1] [(.int (c1 >>> ((8 : Int32) &&& 31)).toInt8.toInt32), (.int (5 : Int32)), (.ref a1)])) rfl rfl (hb hby d_jdk_52_method_4_code_52)
  refine Go.step st_80 ?_
  have N_80 := Fr.snoc X_80 N_77 g_a1
  have le_80 : h_77.size ≤ h_80.size := Nat.le_of_eq W_80.size.symm
  have KP_80 := KP_77.wr W_80 (Or.inl (List.mem_of_getElem? (i := 0) rfl))
  have O_80 := O_77.wr W_80 g_a1
  have V_80 : Arv Z h_80 a1 k1 .byte (12 : Int32) [(.int x0), (.int x1), (.int x2), (.int x3), (.int (lo8 c1)), (.int (hi8 c1)), (.int x6), (.int x7), (.int x8), (.int x9), (.int x10), (.int x11)] (.int (0 : Int32)) := by
    have q := Arv.set Ar_80 ck_80 Sz_80 Ng_80 Hs_80 Gs_80 (fits_nar_byte _) W_80 5 rfl (Nat.le_of_ble_eq_true rfl)
    rw [hi_eq] at q; exact q
  show Go p e below _ (T_80.setTop (mkF m 53 #[vR a1, vI 5, vI c1] []))
  exact Go.ret0 X_80 hx hlk hret (hb hby d_jdk_52_method_4_code_53) (by decide) (by decide) (by rw [e_80]; exact ⟨rfl, N_80, KP_80, V_80⟩)
--@E
--@C putc3
def Q_putc3 (Z : State) (zc : Int32) (vfm : Value) (a1 : Addr) (k1 : ClassId) (c1 : Int32) (x0 : Int32) (x1 : Int32) (x2 : Int32) (x3 : Int32) (x4 : Int32) (x5 : Int32) (x6 : Int32) (x7 : Int32) (x8 : Int32) (x9 : Int32) (x10 : Int32) (x11 : Int32) (h0 : Heap) (n0 : Nat) (v : Option Value) (h : Heap) (L : List Loc) : Prop := v = none ∧ Fr n0 L ∧ Keep h0 h [a1] ∧ Arv Z h a1 k1 .byte (12 : Int32) [(.int x0), (.int x1), (.int x2), (.int x3), (.int x4), (.int x5), (.int (lo8 c1)), (.int (hi8 c1)), (.int x8), (.int x9), (.int x10), (.int x11)] (.int (0 : Int32))
set_option maxRecDepth 65536 in
set_option maxHeartbeats 40000000 in
theorem rm_putc3 (l : Launch) (Z : State) (a0 : Array Value) (hw : ∀ d ∈ tables_1, d.before a0 Z = true) (zc : Int32) (vfm : Value) (a1 : Addr) (k1 : ClassId) (c1 : Int32) (x0 : Int32) (x1 : Int32) (x2 : Int32) (x3 : Int32) (x4 : Int32) (x5 : Int32) (x6 : Int32) (x7 : Int32) (x8 : Int32) (x9 : Int32) (x10 : Int32) (x11 : Int32) (h0 : Heap) (n0 : Nat) (Z0 : n0 ≤ h0.size) (A_a1 : Arv Z h0 a1 k1 .byte (12 : Int32) [(.int x0), (.int x1), (.int x2), (.int x3), (.int x4), (.int x5), (.int x6), (.int x7), (.int x8), (.int x9), (.int x10), (.int x11)] (.int (0 : Int32))) (g_a1 : n0 ≤ a1) (hSt : St Z zc vfm) (hO : Old Z n0 h0) :
    CN l Z ({ cls := "java/lang/StringUTF16", name := "putChar", desc := "([BII)V" } : Jvm.MethodName) [(Jvm.Cond.code ({ cls := "java/lang/StringUTF16", name := "putChar", desc := "([BII)V" } : Jvm.MethodName) jdk_52_method_4_code (3 : Nat) (Option.none : Option Jvm.ClassFile.FieldType))] ({ frames := 0, cells := 0, slots := 0, locals := 0 } : Room) #[(.ref a1), (.int (3 : Int32)), (.int c1)] h0 (Q_putc3 Z zc vfm a1 k1 c1 x0 x1 x2 x3 x4 x5 x6 x7 x8 x9 x10 x11 h0 n0) := by
  refine CN.of (L0 := #[vR a1, vI 3, vI c1]) (plainFor_of_name pn_1) (fun m => by first | (simp [entryFrame, mkF, argsToLocals, Value.category]; done) | rfl) ?_
  intro p e s m below meth c s₁ hx hby hml hret hlk hZ hown hnm X0 e0
  have N0 := Fr.nil n0
  have KP0 := Keep.refl h0 [a1]
  have hSt_ := hSt
  obtain ⟨S_cs, n_cs, S_fm, r_fm, S_ad, S_hi, S_lo⟩ := hSt_
  show Go p e below _ (s₁.setTop (mkF m 0 #[vR a1, vI 3, vI c1] []))
  obtain ⟨T_82, X_82, e_82, st_82⟩ := getS2 X0 hx hZ hown (host := "") (Or.inl (wd_42 hw)) Via.refl e0 (S_ad.ext hO.2) (g := (mkF m 0 #[vR a1, vI 3, vI c1] [])) rfl (hb hby d_jdk_52_method_4_code_0)
  refine Go.step st_82 ?_
  show Go p e below _ (T_82.setTop (mkF m 3 #[vR a1, vI 3, vI c1] [(.int (1 : Int32))]))
  refine Go.step (fun _ k => XS.ifYes X_82.here hx rfl (pc0 := 3) (pc' := 28) rfl (hb hby d_jdk_52_method_4_code_3) rfl ((if0 _ _).trans (feq ((by decide) : ¬ ((1 : Int32) = (0 : Int32)))).2) (by decide) (by decide) k) ?_
  show Go p e below _ (T_82.setTop (mkF m 28 #[vR a1, vI 3, vI c1] []))
  refine Go.step (fun _ k => XS.iloadN X_82.here hx rfl (hb hby d_jdk_52_method_4_code_28) rfl  k) ?_
  refine Go.step (fun _ k => XS.iconst X_82.here hx rfl (hb hby d_jdk_52_method_4_code_29) k) ?_
  show Go p e below _ (T_82.setTop (mkF m 30 #[vR a1, vI 3, vI c1] [(.int (1 : Int32)), (.int (3 : Int32))]))
  refine Go.step (fun _ k => XS.ishl X_82.here hx rfl (hb hby d_jdk_52_method_4_code_30) rfl k) ?_
  show Go p e below _ (T_82.setTop (mkF m 31 #[vR a1, vI 3, vI c1] [(.int ((3 : Int32) <<< ((1 : Int32) &&& 31)))]))
  refine own_top (congrArg Value.int (show ((3 : Int32) <<< ((1 : Int32) &&& 31)) = (6 : Int32) from by decide)) ?_
  show Go p e below _ (T_82.setTop (mkF m 31 #[vR a1, vI 3, vI c1] [(.int (6 : Int32))]))
  refine Go.step (fun _ k => XS.istoreN X_82.here hx rfl (hb hby d_jdk_52_method_4_code_31) rfl (l' := #[vR a1, vI 6, vI c1]) rfl k) ?_
  show Go p e below _ (T_82.setTop (mkF m 32 #[vR a1, vI 6, vI c1] []))
  refine Go.step (fun _ k => XS.aloadN X_82.here hx rfl (hb hby d_jdk_52_method_4_code_32) rfl rfl k) ?_
  refine Go.step (fun _ k => XS.iloadN X_82.here hx rfl (hb hby d_jdk_52_method_4_code_33) rfl  k) ?_
  show Go p e below _ (T_82.setTop (mkF m 34 #[vR a1, vI 6, vI c1] [(.int (6 : Int32)), (.ref a1)]))
  refine Go.step (fun _ k => XS.iinc X_82.here hx rfl (hb hby d_jdk_52_method_4_code_34) rfl (l' := #[vR a1, vI ((6 : Int32) + (1 : Int32)), vI c1]) rfl k) ?_
  show Go p e below _ (T_82.setTop (mkF m 37 #[vR a1, vI ((6 : Int32) + (1 : Int32)), vI c1] [(.int (6 : Int32)), (.ref a1)]))
  rw [show ((6 : Int32) + (1 : Int32)) = (7 : Int32) from by decide]
  show Go p e below _ (T_82.setTop (mkF m 37 #[vR a1, vI 7, vI c1] [(.int (6 : Int32)), (.ref a1)]))
  refine Go.step (fun _ k => XS.iloadN X_82.here hx rfl (hb hby d_jdk_52_method_4_code_37) rfl  k) ?_
  show Go p e below _ (T_82.setTop (mkF m 38 #[vR a1, vI 7, vI c1] [(.int c1), (.int (6 : Int32)), (.ref a1)]))
  obtain ⟨T_83, X_83, e_83, st_83⟩ := getS2 X_82 hx hZ hown (host := "") (Or.inl (wd_43 hw)) Via.refl e_82 (S_hi.ext hO.2) (g := (mkF m 38 #[vR a1, vI 7, vI c1] [(.int c1), (.int (6 : Int32)), (.ref a1)])) rfl (hb hby d_jdk_52_method_4_code_38)
  refine Go.step st_83 ?_
  show Go p e below _ (T_83.setTop (mkF m 41 #[vR a1, vI 7, vI c1] [(.int (0 : Int32)), (.int c1), (.int (6 : Int32)), (.ref a1)]))
  refine Go.step (fun _ k => XS.ishr X_83.here hx rfl (hb hby d_jdk_52_method_4_code_41) rfl k) ?_
  show Go p e below _ (T_83.setTop (mkF m 42 #[vR a1, vI 7, vI c1] [(.int (c1 >>> ((0 : Int32) &&& 31))), (.int (6 : Int32)), (.ref a1)]))
  refine Go.step (fun _ k => XS.i2b X_83.here hx rfl (hb hby d_jdk_52_method_4_code_42) rfl k) ?_
  show Go p e below _ (T_83.setTop (mkF m 43 #[vR a1, vI 7, vI c1] [(.int (c1 >>> ((0 : Int32) &&& 31)).toInt8.toInt32), (.int (6 : Int32)), (.ref a1)]))
  have cp85 := A_a1
  obtain ⟨cl_84, Ar_84, ck_84, Sz_84, Ng_84, Hs_84, Gs_84⟩ := cp85
  have hin_84 : ¬ ((6 : Int32) < 0 ∨ cl_84.slots.size ≤ ((6 : Int32)).toNatClampNeg) := inb_of Sz_84 ⟨by decide, by decide⟩
  obtain ⟨T_84, h_84, X_84, e_84, W_84, st_84⟩ := stB X_83 hx hZ e_83 Ar_84 (j := (6 : Int32)) hin_84 (g := (mkF m 43 #[vR a1, vI 7, vI c1] [(.int (c1 >>> ((0 : Int32) &&& 31)).toInt8.toInt32), (.int (6 : Int32)), (.ref a1)])) rfl rfl (hb hby d_jdk_52_method_4_code_43)
  refine Go.step st_84 ?_
  have N_84 := Fr.snoc X_84 N0 g_a1
  have le_84 : h0.size ≤ h_84.size := Nat.le_of_eq W_84.size.symm
  have KP_84 := KP0.wr W_84 (Or.inl (List.mem_of_getElem? (i := 0) rfl))
  have O_84 := hO.wr W_84 g_a1
  have V_84 : Arv Z h_84 a1 k1 .byte (12 : Int32) [(.int x0), (.int x1), (.int x2), (.int x3), (.int x4), (.int x5), (.int (lo8 c1)), (.int x7), (.int x8), (.int x9), (.int x10), (.int x11)] (.int (0 : Int32)) := by
    have q := Arv.set Ar_84 ck_84 Sz_84 Ng_84 Hs_84 Gs_84 (fits_nar_byte _) W_84 6 rfl (Nat.le_of_ble_eq_true rfl)
    rw [lo_eq] at q; exact q
  show Go p e below _ (T_84.setTop (mkF m 44 #[vR a1, vI 7, vI c1] []))
  refine Go.step (fun _ k => XS.aloadN X_84.here hx rfl (hb hby d_jdk_52_method_4_code_44) rfl rfl k) ?_
  refine Go.step (fun _ k => XS.iloadN X_84.here hx rfl (hb hby d_jdk_52_method_4_code_45) rfl  k) ?_
  refine Go.step (fun _ k => XS.iloadN X_84.here hx rfl (hb hby d_jdk_52_method_4_code_46) rfl  k) ?_
  show Go p e below _ (T_84.setTop (mkF m 47 #[vR a1, vI 7, vI c1] [(.int c1), (.int (7 : Int32)), (.ref a1)]))
  obtain ⟨T_86, X_86, e_86, st_86⟩ := getS2 X_84 hx hZ hown (host := "") (Or.inl (wd_44 hw)) Via.refl e_84 (S_lo.ext O_84.2) (g := (mkF m 47 #[vR a1, vI 7, vI c1] [(.int c1), (.int (7 : Int32)), (.ref a1)])) rfl (hb hby d_jdk_52_method_4_code_47)
  refine Go.step st_86 ?_
  show Go p e below _ (T_86.setTop (mkF m 50 #[vR a1, vI 7, vI c1] [(.int (8 : Int32)), (.int c1), (.int (7 : Int32)), (.ref a1)]))
  refine Go.step (fun _ k => XS.ishr X_86.here hx rfl (hb hby d_jdk_52_method_4_code_50) rfl k) ?_
  show Go p e below _ (T_86.setTop (mkF m 51 #[vR a1, vI 7, vI c1] [(.int (c1 >>> ((8 : Int32) &&& 31))), (.int (7 : Int32)), (.ref a1)]))
  refine Go.step (fun _ k => XS.i2b X_86.here hx rfl (hb hby d_jdk_52_method_4_code_51) rfl k) ?_
  show Go p e below _ (T_86.setTop (mkF m 52 #[vR a1, vI 7, vI c1] [(.int (c1 >>> ((8 : Int32) &&& 31)).toInt8.toInt32), (.int (7 : Int32)), (.ref a1)]))
  have cp88 := V_84
  obtain ⟨cl_87, Ar_87, ck_87, Sz_87, Ng_87, Hs_87, Gs_87⟩ := cp88
  have hin_87 : ¬ ((7 : Int32) < 0 ∨ cl_87.slots.size ≤ ((7 : Int32)).toNatClampNeg) := inb_of Sz_87 ⟨by decide, by decide⟩
  obtain ⟨T_87, h_87, X_87, e_87, W_87, st_87⟩ := stB X_86 hx hZ e_86 Ar_87 (j := (7 : Int32)) hin_87 (g := (mkF m 52 #[vR a1, vI 7, vI c1] [(.int (c1 >>> ((8 : Int32) &&& 31)).toInt8.toInt32), (.int (7 : Int32)), (.ref a1)])) rfl rfl (hb hby d_jdk_52_method_4_code_52)
  refine Go.step st_87 ?_
  have N_87 := Fr.snoc X_87 N_84 g_a1
  have le_87 : h_84.size ≤ h_87.size := Nat.le_of_eq W_87.size.symm
  have KP_87 := KP_84.wr W_87 (Or.inl (List.mem_of_getElem? (i := 0) rfl))
  have O_87 := O_84.wr W_87 g_a1
  have V_87 : Arv Z h_87 a1 k1 .byte (12 : Int32) [(.int x0), (.int x1), (.int x2), (.int x3), (.int x4), (.int x5), (.int (lo8 c1)), (.int (hi8 c1)), (.int x8), (.int x9), (.int x10), (.int x11)] (.int (0 : Int32)) := by
    have q := Arv.set Ar_87 ck_87 Sz_87 Ng_87 Hs_87 Gs_87 (fits_nar_byte _) W_87 7 rfl (Nat.le_of_ble_eq_true rfl)
    rw [hi_eq] at q; exact q
  show Go p e below _ (T_87.setTop (mkF m 53 #[vR a1, vI 7, vI c1] []))
  exact Go.ret0 X_87 hx hlk hret (hb hby d_jdk_52_method_4_code_53) (by decide) (by decide) (by rw [e_87]; exact ⟨rfl, N_87, KP_87, V_87⟩)
--@E
--@C putc4
def Q_putc4 (Z : State) (zc : Int32) (vfm : Value) (a1 : Addr) (k1 : ClassId) (c1 : Int32) (x0 : Int32) (x1 : Int32) (x2 : Int32) (x3 : Int32) (x4 : Int32) (x5 : Int32) (x6 : Int32) (x7 : Int32) (x8 : Int32) (x9 : Int32) (x10 : Int32) (x11 : Int32) (h0 : Heap) (n0 : Nat) (v : Option Value) (h : Heap) (L : List Loc) : Prop := v = none ∧ Fr n0 L ∧ Keep h0 h [a1] ∧ Arv Z h a1 k1 .byte (12 : Int32) [(.int x0), (.int x1), (.int x2), (.int x3), (.int x4), (.int x5), (.int x6), (.int x7), (.int (lo8 c1)), (.int (hi8 c1)), (.int x10), (.int x11)] (.int (0 : Int32))
set_option maxRecDepth 65536 in
set_option maxHeartbeats 40000000 in
theorem rm_putc4 (l : Launch) (Z : State) (a0 : Array Value) (hw : ∀ d ∈ tables_1, d.before a0 Z = true) (zc : Int32) (vfm : Value) (a1 : Addr) (k1 : ClassId) (c1 : Int32) (x0 : Int32) (x1 : Int32) (x2 : Int32) (x3 : Int32) (x4 : Int32) (x5 : Int32) (x6 : Int32) (x7 : Int32) (x8 : Int32) (x9 : Int32) (x10 : Int32) (x11 : Int32) (h0 : Heap) (n0 : Nat) (Z0 : n0 ≤ h0.size) (A_a1 : Arv Z h0 a1 k1 .byte (12 : Int32) [(.int x0), (.int x1), (.int x2), (.int x3), (.int x4), (.int x5), (.int x6), (.int x7), (.int x8), (.int x9), (.int x10), (.int x11)] (.int (0 : Int32))) (g_a1 : n0 ≤ a1) (hSt : St Z zc vfm) (hO : Old Z n0 h0) :
    CN l Z ({ cls := "java/lang/StringUTF16", name := "putChar", desc := "([BII)V" } : Jvm.MethodName) [(Jvm.Cond.code ({ cls := "java/lang/StringUTF16", name := "putChar", desc := "([BII)V" } : Jvm.MethodName) jdk_52_method_4_code (3 : Nat) (Option.none : Option Jvm.ClassFile.FieldType))] ({ frames := 0, cells := 0, slots := 0, locals := 0 } : Room) #[(.ref a1), (.int (4 : Int32)), (.int c1)] h0 (Q_putc4 Z zc vfm a1 k1 c1 x0 x1 x2 x3 x4 x5 x6 x7 x8 x9 x10 x11 h0 n0) := by
  refine CN.of (L0 := #[vR a1, vI 4, vI c1]) (plainFor_of_name pn_1) (fun m => by first | (simp [entryFrame, mkF, argsToLocals, Value.category]; done) | rfl) ?_
  intro p e s m below meth c s₁ hx hby hml hret hlk hZ hown hnm X0 e0
  have N0 := Fr.nil n0
  have KP0 := Keep.refl h0 [a1]
  have hSt_ := hSt
  obtain ⟨S_cs, n_cs, S_fm, r_fm, S_ad, S_hi, S_lo⟩ := hSt_
  show Go p e below _ (s₁.setTop (mkF m 0 #[vR a1, vI 4, vI c1] []))
  obtain ⟨T_89, X_89, e_89, st_89⟩ := getS2 X0 hx hZ hown (host := "") (Or.inl (wd_42 hw)) Via.refl e0 (S_ad.ext hO.2) (g := (mkF m 0 #[vR a1, vI 4, vI c1] [])) rfl (hb hby d_jdk_52_method_4_code_0)
  refine Go.step st_89 ?_
  show Go p e below _ (T_89.setTop (mkF m 3 #[vR a1, vI 4, vI c1] [(.int (1 : Int32))]))
  refine Go.step (fun _ k => XS.ifYes X_89.here hx rfl (pc0 := 3) (pc' := 28) rfl (hb hby d_jdk_52_method_4_code_3) rfl ((if0 _ _).trans (feq ((by decide) : ¬ ((1 : Int32) = (0 : Int32)))).2) (by decide) (by decide) k) ?_
  show Go p e below _ (T_89.setTop (mkF m 28 #[vR a1, vI 4, vI c1] []))
  refine Go.step (fun _ k => XS.iloadN X_89.here hx rfl (hb hby d_jdk_52_method_4_code_28) rfl  k) ?_
  refine Go.step (fun _ k => XS.iconst X_89.here hx rfl (hb hby d_jdk_52_method_4_code_29) k) ?_
  show Go p e below _ (T_89.setTop (mkF m 30 #[vR a1, vI 4, vI c1] [(.int (1 : Int32)), (.int (4 : Int32))]))
  refine Go.step (fun _ k => XS.ishl X_89.here hx rfl (hb hby d_jdk_52_method_4_code_30) rfl k) ?_
  show Go p e below _ (T_89.setTop (mkF m 31 #[vR a1, vI 4, vI c1] [(.int ((4 : Int32) <<< ((1 : Int32) &&& 31)))]))
  refine own_top (congrArg Value.int (show ((4 : Int32) <<< ((1 : Int32) &&& 31)) = (8 : Int32) from by decide)) ?_
  show Go p e below _ (T_89.setTop (mkF m 31 #[vR a1, vI 4, vI c1] [(.int (8 : Int32))]))
  refine Go.step (fun _ k => XS.istoreN X_89.here hx rfl (hb hby d_jdk_52_method_4_code_31) rfl (l' := #[vR a1, vI 8, vI c1]) rfl k) ?_
  show Go p e below _ (T_89.setTop (mkF m 32 #[vR a1, vI 8, vI c1] []))
  refine Go.step (fun _ k => XS.aloadN X_89.here hx rfl (hb hby d_jdk_52_method_4_code_32) rfl rfl k) ?_
  refine Go.step (fun _ k => XS.iloadN X_89.here hx rfl (hb hby d_jdk_52_method_4_code_33) rfl  k) ?_
  show Go p e below _ (T_89.setTop (mkF m 34 #[vR a1, vI 8, vI c1] [(.int (8 : Int32)), (.ref a1)]))
  refine Go.step (fun _ k => XS.iinc X_89.here hx rfl (hb hby d_jdk_52_method_4_code_34) rfl (l' := #[vR a1, vI ((8 : Int32) + (1 : Int32)), vI c1]) rfl k) ?_
  show Go p e below _ (T_89.setTop (mkF m 37 #[vR a1, vI ((8 : Int32) + (1 : Int32)), vI c1] [(.int (8 : Int32)), (.ref a1)]))
  rw [show ((8 : Int32) + (1 : Int32)) = (9 : Int32) from by decide]
  show Go p e below _ (T_89.setTop (mkF m 37 #[vR a1, vI 9, vI c1] [(.int (8 : Int32)), (.ref a1)]))
  refine Go.step (fun _ k => XS.iloadN X_89.here hx rfl (hb hby d_jdk_52_method_4_code_37) rfl  k) ?_
  show Go p e below _ (T_89.setTop (mkF m 38 #[vR a1, vI 9, vI c1] [(.int c1), (.int (8 : Int32)), (.ref a1)]))
  obtain ⟨T_90, X_90, e_90, st_90⟩ := getS2 X_89 hx hZ hown (host := "") (Or.inl (wd_43 hw)) Via.refl e_89 (S_hi.ext hO.2) (g := (mkF m 38 #[vR a1, vI 9, vI c1] [(.int c1), (.int (8 : Int32)), (.ref a1)])) rfl (hb hby d_jdk_52_method_4_code_38)
  refine Go.step st_90 ?_
  show Go p e below _ (T_90.setTop (mkF m 41 #[vR a1, vI 9, vI c1] [(.int (0 : Int32)), (.int c1), (.int (8 : Int32)), (.ref a1)]))
  refine Go.step (fun _ k => XS.ishr X_90.here hx rfl (hb hby d_jdk_52_method_4_code_41) rfl k) ?_
  show Go p e below _ (T_90.setTop (mkF m 42 #[vR a1, vI 9, vI c1] [(.int (c1 >>> ((0 : Int32) &&& 31))), (.int (8 : Int32)), (.ref a1)]))
  refine Go.step (fun _ k => XS.i2b X_90.here hx rfl (hb hby d_jdk_52_method_4_code_42) rfl k) ?_
  show Go p e below _ (T_90.setTop (mkF m 43 #[vR a1, vI 9, vI c1] [(.int (c1 >>> ((0 : Int32) &&& 31)).toInt8.toInt32), (.int (8 : Int32)), (.ref a1)]))
  have cp92 := A_a1
  obtain ⟨cl_91, Ar_91, ck_91, Sz_91, Ng_91, Hs_91, Gs_91⟩ := cp92
  have hin_91 : ¬ ((8 : Int32) < 0 ∨ cl_91.slots.size ≤ ((8 : Int32)).toNatClampNeg) := inb_of Sz_91 ⟨by decide, by decide⟩
  obtain ⟨T_91, h_91, X_91, e_91, W_91, st_91⟩ := stB X_90 hx hZ e_90 Ar_91 (j := (8 : Int32)) hin_91 (g := (mkF m 43 #[vR a1, vI 9, vI c1] [(.int (c1 >>> ((0 : Int32) &&& 31)).toInt8.toInt32), (.int (8 : Int32)), (.ref a1)])) rfl rfl (hb hby d_jdk_52_method_4_code_43)
  refine Go.step st_91 ?_
  have N_91 := Fr.snoc X_91 N0 g_a1
  have le_91 : h0.size ≤ h_91.size := Nat.le_of_eq W_91.size.symm
  have KP_91 := KP0.wr W_91 (Or.inl (List.mem_of_getElem? (i := 0) rfl))
  have O_91 := hO.wr W_91 g_a1
  have V_91 : Arv Z h_91 a1 k1 .byte (12 : Int32) [(.int x0), (.int x1), (.int x2), (.int x3), (.int x4), (.int x5), (.int x6), (.int x7), (.int (lo8 c1)), (.int x9), (.int x10), (.int x11)] (.int (0 : Int32)) := by
    have q := Arv.set Ar_91 ck_91 Sz_91 Ng_91 Hs_91 Gs_91 (fits_nar_byte _) W_91 8 rfl (Nat.le_of_ble_eq_true rfl)
    rw [lo_eq] at q; exact q
  show Go p e below _ (T_91.setTop (mkF m 44 #[vR a1, vI 9, vI c1] []))
  refine Go.step (fun _ k => XS.aloadN X_91.here hx rfl (hb hby d_jdk_52_method_4_code_44) rfl rfl k) ?_
  refine Go.step (fun _ k => XS.iloadN X_91.here hx rfl (hb hby d_jdk_52_method_4_code_45) rfl  k) ?_
  refine Go.step (fun _ k => XS.iloadN X_91.here hx rfl (hb hby d_jdk_52_method_4_code_46) rfl  k) ?_
  show Go p e below _ (T_91.setTop (mkF m 47 #[vR a1, vI 9, vI c1] [(.int c1), (.int (9 : Int32)), (.ref a1)]))
  obtain ⟨T_93, X_93, e_93, st_93⟩ := getS2 X_91 hx hZ hown (host := "") (Or.inl (wd_44 hw)) Via.refl e_91 (S_lo.ext O_91.2) (g := (mkF m 47 #[vR a1, vI 9, vI c1] [(.int c1), (.int (9 : Int32)), (.ref a1)])) rfl (hb hby d_jdk_52_method_4_code_47)
  refine Go.step st_93 ?_
  show Go p e below _ (T_93.setTop (mkF m 50 #[vR a1, vI 9, vI c1] [(.int (8 : Int32)), (.int c1), (.int (9 : Int32)), (.ref a1)]))
  refine Go.step (fun _ k => XS.ishr X_93.here hx rfl (hb hby d_jdk_52_method_4_code_50) rfl k) ?_
  show Go p e below _ (T_93.setTop (mkF m 51 #[vR a1, vI 9, vI c1] [(.int (c1 >>> ((8 : Int32) &&& 31))), (.int (9 : Int32)), (.ref a1)]))
  refine Go.step (fun _ k => XS.i2b X_93.here hx rfl (hb hby d_jdk_52_method_4_code_51) rfl k) ?_
  show Go p e below _ (T_93.setTop (mkF m 52 #[vR a1, vI 9, vI c1] [(.int (c1 >>> ((8 : Int32) &&& 31)).toInt8.toInt32), (.int (9 : Int32)), (.ref a1)]))
  have cp95 := V_91
  obtain ⟨cl_94, Ar_94, ck_94, Sz_94, Ng_94, Hs_94, Gs_94⟩ := cp95
  have hin_94 : ¬ ((9 : Int32) < 0 ∨ cl_94.slots.size ≤ ((9 : Int32)).toNatClampNeg) := inb_of Sz_94 ⟨by decide, by decide⟩
  obtain ⟨T_94, h_94, X_94, e_94, W_94, st_94⟩ := stB X_93 hx hZ e_93 Ar_94 (j := (9 : Int32)) hin_94 (g := (mkF m 52 #[vR a1, vI 9, vI c1] [(.int (c1 >>> ((8 : Int32) &&& 31)).toInt8.toInt32), (.int (9 : Int32)), (.ref a1)])) rfl rfl (hb hby d_jdk_52_method_4_code_52)
  refine Go.step st_94 ?_
  have N_94 := Fr.snoc X_94 N_91 g_a1
  have le_94 : h_91.size ≤ h_94.size := Nat.le_of_eq W_94.size.symm
  have KP_94 := KP_91.wr W_94 (Or.inl (List.mem_of_getElem? (i := 0) rfl))
  have O_94 := O_91.wr W_94 g_a1
  have V_94 : Arv Z h_94 a1 k1 .byte (12 : Int32) [(.int x0), (.int x1), (.int x2), (.int x3), (.int x4), (.int x5), (.int x6), (.int x7), (.int (lo8 c1)), (.int (hi8 c1)), (.int x10), (.int x11)] (.int (0 : Int32)) := by
    have q := Arv.set Ar_94 ck_94 Sz_94 Ng_94 Hs_94 Gs_94 (fits_nar_byte _) W_94 9 rfl (Nat.le_of_ble_eq_true rfl)
    rw [hi_eq] at q; exact q
  show Go p e below _ (T_94.setTop (mkF m 53 #[vR a1, vI 9, vI c1] []))
  exact Go.ret0 X_94 hx hlk hret (hb hby d_jdk_52_method_4_code_53) (by decide) (by decide) (by rw [e_94]; exact ⟨rfl, N_94, KP_94, V_94⟩)
--@E
--@C putc5
def Q_putc5 (Z : State) (zc : Int32) (vfm : Value) (a1 : Addr) (k1 : ClassId) (c1 : Int32) (x0 : Int32) (x1 : Int32) (x2 : Int32) (x3 : Int32) (x4 : Int32) (x5 : Int32) (x6 : Int32) (x7 : Int32) (x8 : Int32) (x9 : Int32) (x10 : Int32) (x11 : Int32) (h0 : Heap) (n0 : Nat) (v : Option Value) (h : Heap) (L : List Loc) : Prop := v = none ∧ Fr n0 L ∧ Keep h0 h [a1] ∧ Arv Z h a1 k1 .byte (12 : Int32) [(.int x0), (.int x1), (.int x2), (.int x3), (.int x4), (.int x5), (.int x6), (.int x7), (.int x8), (.int x9), (.int (lo8 c1)), (.int (hi8 c1))] (.int (0 : Int32))
set_option maxRecDepth 65536 in
set_option maxHeartbeats 40000000 in
theorem rm_putc5 (l : Launch) (Z : State) (a0 : Array Value) (hw : ∀ d ∈ tables_1, d.before a0 Z = true) (zc : Int32) (vfm : Value) (a1 : Addr) (k1 : ClassId) (c1 : Int32) (x0 : Int32) (x1 : Int32) (x2 : Int32) (x3 : Int32) (x4 : Int32) (x5 : Int32) (x6 : Int32) (x7 : Int32) (x8 : Int32) (x9 : Int32) (x10 : Int32) (x11 : Int32) (h0 : Heap) (n0 : Nat) (Z0 : n0 ≤ h0.size) (A_a1 : Arv Z h0 a1 k1 .byte (12 : Int32) [(.int x0), (.int x1), (.int x2), (.int x3), (.int x4), (.int x5), (.int x6), (.int x7), (.int x8), (.int x9), (.int x10), (.int x11)] (.int (0 : Int32))) (g_a1 : n0 ≤ a1) (hSt : St Z zc vfm) (hO : Old Z n0 h0) :
    CN l Z ({ cls := "java/lang/StringUTF16", name := "putChar", desc := "([BII)V" } : Jvm.MethodName) [(Jvm.Cond.code ({ cls := "java/lang/StringUTF16", name := "putChar", desc := "([BII)V" } : Jvm.MethodName) jdk_52_method_4_code (3 : Nat) (Option.none : Option Jvm.ClassFile.FieldType))] ({ frames := 0, cells := 0, slots := 0, locals := 0 } : Room) #[(.ref a1), (.int (5 : Int32)), (.int c1)] h0 (Q_putc5 Z zc vfm a1 k1 c1 x0 x1 x2 x3 x4 x5 x6 x7 x8 x9 x10 x11 h0 n0) := by
  refine CN.of (L0 := #[vR a1, vI 5, vI c1]) (plainFor_of_name pn_1) (fun m => by first | (simp [entryFrame, mkF, argsToLocals, Value.category]; done) | rfl) ?_
  intro p e s m below meth c s₁ hx hby hml hret hlk hZ hown hnm X0 e0
  have N0 := Fr.nil n0
  have KP0 := Keep.refl h0 [a1]
  have hSt_ := hSt
  obtain ⟨S_cs, n_cs, S_fm, r_fm, S_ad, S_hi, S_lo⟩ := hSt_
  show Go p e below _ (s₁.setTop (mkF m 0 #[vR a1, vI 5, vI c1] []))
  obtain ⟨T_96, X_96, e_96, st_96⟩ := getS2 X0 hx hZ hown (host := "") (Or.inl (wd_42 hw)) Via.refl e0 (S_ad.ext hO.2) (g := (mkF m 0 #[vR a1, vI 5, vI c1] [])) rfl (hb hby d_jdk_52_method_4_code_0)
  refine Go.step st_96 ?_
  show Go p e below _ (T_96.setTop (mkF m 3 #[vR a1, vI 5, vI c1] [(.int (1 : Int32))]))
  refine Go.step (fun _ k => XS.ifYes X_96.here hx rfl (pc0 := 3) (pc' := 28) rfl (hb hby d_jdk_52_method_4_code_3) rfl ((if0 _ _).trans (feq ((by decide) : ¬ ((1 : Int32) = (0 : Int32)))).2) (by decide) (by decide) k) ?_
  show Go p e below _ (T_96.setTop (mkF m 28 #[vR a1, vI 5, vI c1] []))
  refine Go.step (fun _ k => XS.iloadN X_96.here hx rfl (hb hby d_jdk_52_method_4_code_28) rfl  k) ?_
  refine Go.step (fun _ k => XS.iconst X_96.here hx rfl (hb hby d_jdk_52_method_4_code_29) k) ?_
  show Go p e below _ (T_96.setTop (mkF m 30 #[vR a1, vI 5, vI c1] [(.int (1 : Int32)), (.int (5 : Int32))]))
  refine Go.step (fun _ k => XS.ishl X_96.here hx rfl (hb hby d_jdk_52_method_4_code_30) rfl k) ?_
  show Go p e below _ (T_96.setTop (mkF m 31 #[vR a1, vI 5, vI c1] [(.int ((5 : Int32) <<< ((1 : Int32) &&& 31)))]))
  refine own_top (congrArg Value.int (show ((5 : Int32) <<< ((1 : Int32) &&& 31)) = (10 : Int32) from by decide)) ?_
  show Go p e below _ (T_96.setTop (mkF m 31 #[vR a1, vI 5, vI c1] [(.int (10 : Int32))]))
  refine Go.step (fun _ k => XS.istoreN X_96.here hx rfl (hb hby d_jdk_52_method_4_code_31) rfl (l' := #[vR a1, vI 10, vI c1]) rfl k) ?_
  show Go p e below _ (T_96.setTop (mkF m 32 #[vR a1, vI 10, vI c1] []))
  refine Go.step (fun _ k => XS.aloadN X_96.here hx rfl (hb hby d_jdk_52_method_4_code_32) rfl rfl k) ?_
  refine Go.step (fun _ k => XS.iloadN X_96.here hx rfl (hb hby d_jdk_52_method_4_code_33) rfl  k) ?_
  show Go p e below _ (T_96.setTop (mkF m 34 #[vR a1, vI 10, vI c1] [(.int (10 : Int32)), (.ref a1)]))
  refine Go.step (fun _ k => XS.iinc X_96.here hx rfl (hb hby d_jdk_52_method_4_code_34) rfl (l' := #[vR a1, vI ((10 : Int32) + (1 : Int32)), vI c1]) rfl k) ?_
  show Go p e below _ (T_96.setTop (mkF m 37 #[vR a1, vI ((10 : Int32) + (1 : Int32)), vI c1] [(.int (10 : Int32)), (.ref a1)]))
  rw [show ((10 : Int32) + (1 : Int32)) = (11 : Int32) from by decide]
  show Go p e below _ (T_96.setTop (mkF m 37 #[vR a1, vI 11, vI c1] [(.int (10 : Int32)), (.ref a1)]))
  refine Go.step (fun _ k => XS.iloadN X_96.here hx rfl (hb hby d_jdk_52_method_4_code_37) rfl  k) ?_
  show Go p e below _ (T_96.setTop (mkF m 38 #[vR a1, vI 11, vI c1] [(.int c1), (.int (10 : Int32)), (.ref a1)]))
  obtain ⟨T_97, X_97, e_97, st_97⟩ := getS2 X_96 hx hZ hown (host := "") (Or.inl (wd_43 hw)) Via.refl e_96 (S_hi.ext hO.2) (g := (mkF m 38 #[vR a1, vI 11, vI c1] [(.int c1), (.int (10 : Int32)), (.ref a1)])) rfl (hb hby d_jdk_52_method_4_code_38)
  refine Go.step st_97 ?_
  show Go p e below _ (T_97.setTop (mkF m 41 #[vR a1, vI 11, vI c1] [(.int (0 : Int32)), (.int c1), (.int (10 : Int32)), (.ref a1)]))
  refine Go.step (fun _ k => XS.ishr X_97.here hx rfl (hb hby d_jdk_52_method_4_code_41) rfl k) ?_
  show Go p e below _ (T_97.setTop (mkF m 42 #[vR a1, vI 11, vI c1] [(.int (c1 >>> ((0 : Int32) &&& 31))), (.int (10 : Int32)), (.ref a1)]))
  refine Go.step (fun _ k => XS.i2b X_97.here hx rfl (hb hby d_jdk_52_method_4_code_42) rfl k) ?_
  show Go p e below _ (T_97.setTop (mkF m 43 #[vR a1, vI 11, vI c1] [(.int (c1 >>> ((0 : Int32) &&& 31)).toInt8.toInt32), (.int (10 : Int32)), (.ref a1)]))
  have cp99 := A_a1
  obtain ⟨cl_98, Ar_98, ck_98, Sz_98, Ng_98, Hs_98, Gs_98⟩ := cp99
  have hin_98 : ¬ ((10 : Int32) < 0 ∨ cl_98.slots.size ≤ ((10 : Int32)).toNatClampNeg) := inb_of Sz_98 ⟨by decide, by decide⟩
  obtain ⟨T_98, h_98, X_98, e_98, W_98, st_98⟩ := stB X_97 hx hZ e_97 Ar_98 (j := (10 : Int32)) hin_98 (g := (mkF m 43 #[vR a1, vI 11, vI c1] [(.int (c1 >>> ((0 : Int32) &&& 31)).toInt8.toInt32), (.int (10 : Int32)), (.ref a1)])) rfl rfl (hb hby d_jdk_52_method_4_code_43)
  refine Go.step st_98 ?_
  have N_98 := Fr.snoc X_98 N0 g_a1
  have le_98 : h0.size ≤ h_98.size := Nat.le_of_eq W_98.size.symm
  have KP_98 := KP0.wr W_98 (Or.inl (List.mem_of_getElem? (i := 0) rfl))
  have O_98 := hO.wr W_98 g_a1
  have V_98 : Arv Z h_98 a1 k1 .byte (12 : Int32) [(.int x0), (.int x1), (.int x2), (.int x3), (.int x4), (.int x5), (.int x6), (.int x7), (.int x8), (.int x9), (.int (lo8 c1)), (.int x11)] (.int (0 : Int32)) := by
    have q := Arv.set Ar_98 ck_98 Sz_98 Ng_98 Hs_98 Gs_98 (fits_nar_byte _) W_98 10 rfl (Nat.le_of_ble_eq_true rfl)
    rw [lo_eq] at q; exact q
  show Go p e below _ (T_98.setTop (mkF m 44 #[vR a1, vI 11, vI c1] []))
  refine Go.step (fun _ k => XS.aloadN X_98.here hx rfl (hb hby d_jdk_52_method_4_code_44) rfl rfl k) ?_
  refine Go.step (fun _ k => XS.iloadN X_98.here hx rfl (hb hby d_jdk_52_method_4_code_45) rfl  k) ?_
  refine Go.step (fun _ k => XS.iloadN X_98.here hx rfl (hb hby d_jdk_52_method_4_code_46) rfl  k) ?_
  show Go p e below _ (T_98.setTop (mkF m 47 #[vR a1, vI 11, vI c1] [(.int c1), (.int (11 : Int32)), (.ref a1)]))
  obtain ⟨T_100, X_100, e_100, st_100⟩ := getS2 X_98 hx hZ hown (host := "") (Or.inl (wd_44 hw)) Via.refl e_98 (S_lo.ext O_98.2) (g := (mkF m 47 #[vR a1, vI 11, vI c1] [(.int c1), (.int (11 : Int32)), (.ref a1)])) rfl (hb hby d_jdk_52_method_4_code_47)
  refine Go.step st_100 ?_
  show Go p e below _ (T_100.setTop (mkF m 50 #[vR a1, vI 11, vI c1] [(.int (8 : Int32)), (.int c1), (.int (11 : Int32)), (.ref a1)]))
  refine Go.step (fun _ k => XS.ishr X_100.here hx rfl (hb hby d_jdk_52_method_4_code_50) rfl k) ?_
  show Go p e below _ (T_100.setTop (mkF m 51 #[vR a1, vI 11, vI c1] [(.int (c1 >>> ((8 : Int32) &&& 31))), (.int (11 : Int32)), (.ref a1)]))
  refine Go.step (fun _ k => XS.i2b X_100.here hx rfl (hb hby d_jdk_52_method_4_code_51) rfl k) ?_
  show Go p e below _ (T_100.setTop (mkF m 52 #[vR a1, vI 11, vI c1] [(.int (c1 >>> ((8 : Int32) &&& 31)).toInt8.toInt32), (.int (11 : Int32)), (.ref a1)]))
  have cp102 := V_98
  obtain ⟨cl_101, Ar_101, ck_101, Sz_101, Ng_101, Hs_101, Gs_101⟩ := cp102
  have hin_101 : ¬ ((11 : Int32) < 0 ∨ cl_101.slots.size ≤ ((11 : Int32)).toNatClampNeg) := inb_of Sz_101 ⟨by decide, by decide⟩
  obtain ⟨T_101, h_101, X_101, e_101, W_101, st_101⟩ := stB X_100 hx hZ e_100 Ar_101 (j := (11 : Int32)) hin_101 (g := (mkF m 52 #[vR a1, vI 11, vI c1] [(.int (c1 >>> ((8 : Int32) &&& 31)).toInt8.toInt32), (.int (11 : Int32)), (.ref a1)])) rfl rfl (hb hby d_jdk_52_method_4_code_52)
  refine Go.step st_101 ?_
  have N_101 := Fr.snoc X_101 N_98 g_a1
  have le_101 : h_98.size ≤ h_101.size := Nat.le_of_eq W_101.size.symm
  have KP_101 := KP_98.wr W_101 (Or.inl (List.mem_of_getElem? (i := 0) rfl))
  have O_101 := O_98.wr W_101 g_a1
  have V_101 : Arv Z h_101 a1 k1 .byte (12 : Int32) [(.int x0), (.int x1), (.int x2), (.int x3), (.int x4), (.int x5), (.int x6), (.int x7), (.int x8), (.int x9), (.int (lo8 c1)), (.int (hi8 c1))] (.int (0 : Int32)) := by
    have q := Arv.set Ar_101 ck_101 Sz_101 Ng_101 Hs_101 Gs_101 (fits_nar_byte _) W_101 11 rfl (Nat.le_of_ble_eq_true rfl)
    rw [hi_eq] at q; exact q
  show Go p e below _ (T_101.setTop (mkF m 53 #[vR a1, vI 11, vI c1] []))
  exact Go.ret0 X_101 hx hlk hret (hb hby d_jdk_52_method_4_code_53) (by decide) (by decide) (by rw [e_101]; exact ⟨rfl, N_101, KP_101, V_101⟩)
--@E
--@C toBytes
def Q_toBytes (Z : State) (zc : Int32) (vfm : Value) (a1 : Addr) (k1 : ClassId) (c0 : Int32) (c1 : Int32) (c2 : Int32) (c3 : Int32) (c4 : Int32) (c5 : Int32) (h0 : Heap) (n0 : Nat) (v : Option Value) (h : Heap) (L : List Loc) : Prop := ∃ (r : Addr) (kr : ClassId), v = some (.ref r) ∧ Fr n0 L ∧ Keep h0 h [] ∧ h0.size ≤ r ∧ Arv Z h r kr .byte (12 : Int32) [(.int (lo8 c0)), (.int (hi8 c0)), (.int (lo8 c1)), (.int (hi8 c1)), (.int (lo8 c2)), (.int (hi8 c2)), (.int (lo8 c3)), (.int (hi8 c3)), (.int (lo8 c4)), (.int (hi8 c4)), (.int (lo8 c5)), (.int (hi8 c5))] (.int (0 : Int32))
set_option maxRecDepth 65536 in
set_option maxHeartbeats 40000000 in
theorem rm_toBytes (l : Launch) (Z : State) (a0 : Array Value) (hw : ∀ d ∈ tables_1, d.before a0 Z = true) (zc : Int32) (vfm : Value) (a1 : Addr) (k1 : ClassId) (c0 : Int32) (c1 : Int32) (c2 : Int32) (c3 : Int32) (c4 : Int32) (c5 : Int32) (h0 : Heap) (n0 : Nat) (Z0 : n0 ≤ h0.size) (A_a1 : Arv Z h0 a1 k1 .char (6 : Int32) [(.int c0), (.int c1), (.int c2), (.int c3), (.int c4), (.int c5)] (.int (0 : Int32))) (hSt : St Z zc vfm) (hO : Old Z n0 h0) :
    CN l Z ({ cls := "java/lang/StringUTF16", name := "toBytes", desc := "([CII)[B" } : Jvm.MethodName) [(Jvm.Cond.code ({ cls := "java/lang/StringUTF16", name := "toBytes", desc := "([CII)[B" } : Jvm.MethodName) jdk_52_method_14_code (5 : Nat) (Option.some (Jvm.ClassFile.FieldType.array Jvm.ClassFile.FieldType.byte)))] ({ frames := 2, cells := 1, slots := 12, locals := 24 } : Room) #[(.ref a1), (.int (0 : Int32)), (.int (6 : Int32))] h0 (Q_toBytes Z zc vfm a1 k1 c0 c1 c2 c3 c4 c5 h0 n0) := by
  refine CN.of (L0 := #[vR a1, vI 0, vI 6, vU, vU]) (plainFor_of_name pn_1) (fun m => by first | (simp [entryFrame, mkF, argsToLocals, Value.category]; done) | rfl) ?_
  intro p e s m below meth c s₁ hx hby hml hret hlk hZ hown hnm X0 e0
  have N0 := Fr.nil n0
  have KP0 := Keep.refl h0 []
  have hSt_ := hSt
  obtain ⟨S_cs, n_cs, S_fm, r_fm, S_ad, S_hi, S_lo⟩ := hSt_
  show Go p e below _ (s₁.setTop (mkF m 0 #[vR a1, vI 0, vI 6, vU, vU] []))
  refine Go.step (fun _ k => XS.iloadN X0.here hx rfl (hb hby d_jdk_52_method_14_code_0) rfl  k) ?_
  show Go p e below _ (s₁.setTop (mkF m 1 #[vR a1, vI 0, vI 6, vU, vU] [(.int (6 : Int32))]))
  obtain ⟨v_103, T_103, L_103, X_103, hQ_103, st_103⟩ := goS X0 hx hZ (y := Y_1) hown (wd_32 hw) (wd_33 hw) (wd_23 hw) (wd_34 hw) (by decide) (backOf (W := 0) (rm_nbf l Z a0 hw zc vfm h0 n0 (Nat.le_trans Z0 KP0.1) hSt hO) hZ (wd_34 hw) (wd_23 hw) (by decide) (by decide)) e0 (g := (mkF m 1 #[vR a1, vI 0, vI 6, vU, vU] [(.int (6 : Int32))])) rfl (by rw [hml]; rfl) (argsL := [(.int (6 : Int32))]) (rest := []) rfl (lenOf pd_1 rfl) rfl (by show 2 * 0 + _ ≤ _; exact Nat.le_of_eq rfl) (hb hby d_jdk_52_method_14_code_1) (by decide) (by decide)
  obtain ⟨r_103, kr_103, rfl, Nq_103, K_103, u0_103, u1_103⟩ := hQ_103
  have N_103 := Fr.app N0 Nq_103
  have le_103 : h0.size ≤ T_103.heap.size := K_103.1
  have KP_103 := KP0.trans K_103 all0
  have O_103 := hO.keep K_103 all0
  have sz_r_103 : h0.size ≤ r_103 := Nat.le_trans (Nat.le_refl _) u0_103
  have g_r_103 : n0 ≤ r_103 := Nat.le_trans Z0 sz_r_103
  refine Go.step st_103 ?_
  show Go p e below _ (T_103.setTop (mkF m 4 #[vR a1, vI 0, vI 6, vU, vU] [(.ref r_103)]))
  refine Go.step (fun _ k => XS.astoreN X_103.here hx rfl (hb hby d_jdk_52_method_14_code_4) rfl rfl (l' := #[vR a1, vI 0, vI 6, vR r_103, vU]) rfl k) ?_
  show Go p e below _ (T_103.setTop (mkF m 5 #[vR a1, vI 0, vI 6, vR r_103, vU] []))
  refine Go.step (fun _ k => XS.iconst X_103.here hx rfl (hb hby d_jdk_52_method_14_code_5) k) ?_
  show Go p e below _ (T_103.setTop (mkF m 6 #[vR a1, vI 0, vI 6, vR r_103, vU] [(.int (0 : Int32))]))
  refine Go.step (fun _ k => XS.istore X_103.here hx rfl (hb hby d_jdk_52_method_14_code_6) rfl (l' := #[vR a1, vI 0, vI 6, vR r_103, vI 0]) rfl k) ?_
  show Go p e below _ (T_103.setTop (mkF m 8 #[vR a1, vI 0, vI 6, vR r_103, vI 0] []))
  refine Go.step (fun _ k => XS.iload X_103.here hx rfl (hb hby d_jdk_52_method_14_code_8) rfl  k) ?_
  refine Go.step (fun _ k => XS.iloadN X_103.here hx rfl (hb hby d_jdk_52_method_14_code_10) rfl  k) ?_
  show Go p e below _ (T_103.setTop (mkF m 11 #[vR a1, vI 0, vI 6, vR r_103, vI 0] [(.int (6 : Int32)), (.int (0 : Int32))]))
  refine Go.step (fun _ k => XS.icmpNo X_103.here hx rfl (hb hby d_jdk_52_method_14_code_11) rfl (tlt ((by decide) : (0 : Int32) < (6 : Int32))).2.1 k) ?_
  show Go p e below _ (T_103.setTop (mkF m 14 #[vR a1, vI 0, vI 6, vR r_103, vI 0] []))
  refine Go.step (fun _ k => XS.aloadN X_103.here hx rfl (hb hby d_jdk_52_method_14_code_14) rfl rfl k) ?_
  refine Go.step (fun _ k => XS.iload X_103.here hx rfl (hb hby d_jdk_52_method_14_code_15) rfl  k) ?_
  refine Go.step (fun _ k => XS.aloadN X_103.here hx rfl (hb hby d_jdk_52_method_14_code_17) rfl rfl k) ?_
  refine Go.step (fun _ k => XS.iloadN X_103.here hx rfl (hb hby d_jdk_52_method_14_code_18) rfl  k) ?_
  show Go p e below _ (T_103.setTop (mkF m 19 #[vR a1, vI 0, vI 6, vR r_103, vI 0] [(.int (0 : Int32)), (.ref a1), (.int (0 : Int32)), (.ref r_103)]))
  have f105 : Arv Z T_103.heap a1 k1 .char (6 : Int32) [(.int c0), (.int c1), (.int c2), (.int c3), (.int c4), (.int c5)] (.int (0 : Int32)) := (A_a1.keep K_103 nin0)
  have cp106 := f105
  obtain ⟨cl_104, Ar_104, -, Sz_104, -, Hs_104, -⟩ := cp106
  have hin_104 : ¬ ((0 : Int32) < 0 ∨ cl_104.slots.size ≤ ((0 : Int32)).toNatClampNeg) := (inb_of Sz_104 ⟨by decide, by decide⟩)
  have hat_104 : cl_104.slots[((0 : Int32)).toNatClampNeg]? = some (.int c0) := (Hs_104.at (inb_of Sz_104 ⟨by decide, by decide⟩) rfl)
  refine Go.step (fun _ k => X_103.caload hx (j := (0 : Int32)) (v := (.int c0)) (by exact Ar_104.1) (State.isArrayOf_alike hZ.alike Ar_104.2.1) Ar_104.2.2 hin_104 hat_104 (g := (mkF m 19 #[vR a1, vI 0, vI 6, vR r_103, vI 0] [(.int (0 : Int32)), (.ref a1), (.int (0 : Int32)), (.ref r_103)])) rfl rfl (hb hby d_jdk_52_method_14_code_19) _ k) ?_
  show Go p e below _ (T_103.setTop (mkF m 20 #[vR a1, vI 0, vI 6, vR r_103, vI 0] [(.int c0), (.int (0 : Int32)), (.ref r_103)]))
  obtain ⟨v_107, T_107, L_107, X_107, hQ_107, st_107⟩ := goS X_103 hx hZ (y := Y_2) hown (wd_39 hw) (wd_40 hw) (wd_23 hw) (wd_41 hw) (by decide) (backOf (W := 0) (rm_putc0 l Z a0 hw zc vfm (r_103) (kr_103) (c0) ((0 : Int32)) ((0 : Int32)) ((0 : Int32)) ((0 : Int32)) ((0 : Int32)) ((0 : Int32)) ((0 : Int32)) ((0 : Int32)) ((0 : Int32)) ((0 : Int32)) ((0 : Int32)) ((0 : Int32)) T_103.heap n0 (Nat.le_trans Z0 KP_103.1) u1_103 g_r_103 hSt O_103) hZ (wd_41 hw) (wd_23 hw) (by decide) (by decide)) rfl (g := (mkF m 20 #[vR a1, vI 0, vI 6, vR r_103, vI 0] [(.int c0), (.int (0 : Int32)), (.ref r_103)])) rfl (by rw [hml]; rfl) (argsL := [(.ref r_103), (.int (0 : Int32)), (.int c0)]) (rest := []) rfl (lenOf pd_2 rfl) rfl (by show 2 * 0 + _ ≤ _; exact Nat.le_of_eq rfl) (hb hby d_jdk_52_method_14_code_20) (by decide) (by decide)
  obtain ⟨rfl, Nq_107, K_107, u0_107⟩ := hQ_107
  have N_107 := Fr.app N_103 Nq_107
  have le_107 : T_103.heap.size ≤ T_107.heap.size := K_107.1
  have KP_107 := KP_103.trans K_107 (allS (Or.inr sz_r_103) all0)
  have O_107 := O_103.keep K_107 (allS g_r_103 all0)
  refine Go.step st_107 ?_
  show Go p e below _ (T_107.setTop (mkF m 23 #[vR a1, vI 0, vI 6, vR r_103, vI 0] []))
  refine Go.step (fun _ k => XS.iinc X_107.here hx rfl (hb hby d_jdk_52_method_14_code_23) rfl (l' := #[vR a1, vI ((0 : Int32) + (1 : Int32)), vI 6, vR r_103, vI 0]) rfl k) ?_
  show Go p e below _ (T_107.setTop (mkF m 26 #[vR a1, vI ((0 : Int32) + (1 : Int32)), vI 6, vR r_103, vI 0] []))
  rw [show ((0 : Int32) + (1 : Int32)) = (1 : Int32) from by decide]
  show Go p e below _ (T_107.setTop (mkF m 26 #[vR a1, vI 1, vI 6, vR r_103, vI 0] []))
  refine Go.step (fun _ k => XS.iinc X_107.here hx rfl (hb hby d_jdk_52_method_14_code_26) rfl (l' := #[vR a1, vI 1, vI 6, vR r_103, vI ((0 : Int32) + (1 : Int32))]) rfl k) ?_
  show Go p e below _ (T_107.setTop (mkF m 29 #[vR a1, vI 1, vI 6, vR r_103, vI ((0 : Int32) + (1 : Int32))] []))
  rw [show ((0 : Int32) + (1 : Int32)) = (1 : Int32) from by decide]
  show Go p e below _ (T_107.setTop (mkF m 29 #[vR a1, vI 1, vI 6, vR r_103, vI 1] []))
  refine Go.step (fun _ k => XS.goto X_107.here hx rfl (pc0 := 29) (pc' := 8) rfl (hb hby d_jdk_52_method_14_code_29) (by decide) (by decide) k) ?_
  show Go p e below _ (T_107.setTop (mkF m 8 #[vR a1, vI 1, vI 6, vR r_103, vI 1] []))
  refine Go.step (fun _ k => XS.iload X_107.here hx rfl (hb hby d_jdk_52_method_14_code_8) rfl  k) ?_
  refine Go.step (fun _ k => XS.iloadN X_107.here hx rfl (hb hby d_jdk_52_method_14_code_10) rfl  k) ?_
  show Go p e below _ (T_107.setTop (mkF m 11 #[vR a1, vI 1, vI 6, vR r_103, vI 1] [(.int (6 : Int32)), (.int (1 : Int32))]))
  refine Go.step (fun _ k => XS.icmpNo X_107.here hx rfl (hb hby d_jdk_52_method_14_code_11) rfl (tlt ((by decide) : (1 : Int32) < (6 : Int32))).2.1 k) ?_
  show Go p e below _ (T_107.setTop (mkF m 14 #[vR a1, vI 1, vI 6, vR r_103, vI 1] []))
  refine Go.step (fun _ k => XS.aloadN X_107.here hx rfl (hb hby d_jdk_52_method_14_code_14) rfl rfl k) ?_
  refine Go.step (fun _ k => XS.iload X_107.here hx rfl (hb hby d_jdk_52_method_14_code_15) rfl  k) ?_
  refine Go.step (fun _ k => XS.aloadN X_107.here hx rfl (hb hby d_jdk_52_method_14_code_17) rfl rfl k) ?_
  refine Go.step (fun _ k => XS.iloadN X_107.here hx rfl (hb hby d_jdk_52_method_14_code_18) rfl  k) ?_
  show Go p e below _ (T_107.setTop (mkF m 19 #[vR a1, vI 1, vI 6, vR r_103, vI 1] [(.int (1 : Int32)), (.ref a1), (.int (1 : Int32)), (.ref r_103)]))
  have f109 : Arv Z T_107.heap a1 k1 .char (6 : Int32) [(.int c0), (.int c1), (.int c2), (.int c3), (.int c4), (.int c5)] (.int (0 : Int32)) := (f105.keep K_107 (ninS (Nat.ne_of_lt (Nat.lt_of_lt_of_le A_a1.lt (Nat.le_trans (Nat.le_refl _) u0_103))) nin0))
  have cp110 := f109
  obtain ⟨cl_108, Ar_108, -, Sz_108, -, Hs_108, -⟩ := cp110
  have hin_108 : ¬ ((1 : Int32) < 0 ∨ cl_108.slots.size ≤ ((1 : Int32)).toNatClampNeg) := (inb_of Sz_108 ⟨by decide, by decide⟩)
  have hat_108 : cl_108.slots[((1 : Int32)).toNatClampNeg]? = some (.int c1) := (Hs_108.at (inb_of Sz_108 ⟨by decide, by decide⟩) rfl)
  refine Go.step (fun _ k => X_107.caload hx (j := (1 : Int32)) (v := (.int c1)) (by exact Ar_108.1) (State.isArrayOf_alike hZ.alike Ar_108.2.1) Ar_108.2.2 hin_108 hat_108 (g := (mkF m 19 #[vR a1, vI 1, vI 6, vR r_103, vI 1] [(.int (1 : Int32)), (.ref a1), (.int (1 : Int32)), (.ref r_103)])) rfl rfl (hb hby d_jdk_52_method_14_code_19) _ k) ?_
  show Go p e below _ (T_107.setTop (mkF m 20 #[vR a1, vI 1, vI 6, vR r_103, vI 1] [(.int c1), (.int (1 : Int32)), (.ref r_103)]))
  obtain ⟨v_111, T_111, L_111, X_111, hQ_111, st_111⟩ := goS X_107 hx hZ (y := Y_2) hown (wd_39 hw) (wd_40 hw) (wd_23 hw) (wd_41 hw) (by decide) (backOf (W := 0) (rm_putc1 l Z a0 hw zc vfm (r_103) (kr_103) (c1) ((lo8 c0)) ((hi8 c0)) ((0 : Int32)) ((0 : Int32)) ((0 : Int32)) ((0 : Int32)) ((0 : Int32)) ((0 : Int32)) ((0 : Int32)) ((0 : Int32)) ((0 : Int32)) ((0 : Int32)) T_107.heap n0 (Nat.le_trans Z0 KP_107.1) u0_107 g_r_103 hSt O_107) hZ (wd_41 hw) (wd_23 hw) (by decide) (by decide)) rfl (g := (mkF m 20 #[vR a1, vI 1, vI 6, vR r_103, vI 1] [(.int c1), (.int (1 : Int32)), (.ref r_103)])) rfl (by rw [hml]; rfl) (argsL := [(.ref r_103), (.int (1 : Int32)), (.int c1)]) (rest := []) rfl (lenOf pd_2 rfl) rfl (by show 2 * 0 + _ ≤ _; exact Nat.le_of_eq rfl) (hb hby d_jdk_52_method_14_code_20) (by decide) (by decide)
  obtain ⟨rfl, Nq_111, K_111, u0_111⟩ := hQ_111
  have N_111 := Fr.app N_107 Nq_111
  have le_111 : T_107.heap.size ≤ T_111.heap.size := K_111.1
  have KP_111 := KP_107.trans K_111 (allS (Or.inr sz_r_103) all0)
  have O_111 := O_107.keep K_111 (allS g_r_103 all0)
  refine Go.step st_111 ?_
  show Go p e below _ (T_111.setTop (mkF m 23 #[vR a1, vI 1, vI 6, vR r_103, vI 1] []))
  refine Go.step (fun _ k => XS.iinc X_111.here hx rfl (hb hby d_jdk_52_method_14_code_23) rfl (l' := #[vR a1, vI ((1 : Int32) + (1 : Int32)), vI 6, vR r_103, vI 1]) rfl k) ?_
  show Go p e below _ (T_111.setTop (mkF m 26 #[vR a1, vI ((1 : Int32) + (1 : Int32)), vI 6, vR r_103, vI 1] []))
  rw [show ((1 : Int32) + (1 : Int32)) = (2 : Int32) from by decide]
  show Go p e below _ (T_111.setTop (mkF m 26 #[vR a1, vI 2, vI 6, vR r_103, vI 1] []))
  refine Go.step (fun _ k => XS.iinc X_111.here hx rfl (hb hby d_jdk_52_method_14_code_26) rfl (l' := #[vR a1, vI 2, vI 6, vR r_103, vI ((1 : Int32) + (1 : Int32))]) rfl k) ?_
  show Go p e below _ (T_111.setTop (mkF m 29 #[vR a1, vI 2, vI 6, vR r_103, vI ((1 : Int32) + (1 : Int32))] []))
  rw [show ((1 : Int32) + (1 : Int32)) = (2 : Int32) from by decide]
  show Go p e below _ (T_111.setTop (mkF m 29 #[vR a1, vI 2, vI 6, vR r_103, vI 2] []))
  refine Go.step (fun _ k => XS.goto X_111.here hx rfl (pc0 := 29) (pc' := 8) rfl (hb hby d_jdk_52_method_14_code_29) (by decide) (by decide) k) ?_
  show Go p e below _ (T_111.setTop (mkF m 8 #[vR a1, vI 2, vI 6, vR r_103, vI 2] []))
  refine Go.step (fun _ k => XS.iload X_111.here hx rfl (hb hby d_jdk_52_method_14_code_8) rfl  k) ?_
  refine Go.step (fun _ k => XS.iloadN X_111.here hx rfl (hb hby d_jdk_52_method_14_code_10) rfl  k) ?_
  show Go p e below _ (T_111.setTop (mkF m 11 #[vR a1, vI 2, vI 6, vR r_103, vI 2] [(.int (6 : Int32)), (.int (2 : Int32))]))
  refine Go.step (fun _ k => XS.icmpNo X_111.here hx rfl (hb hby d_jdk_52_method_14_code_11) rfl (tlt ((by decide) : (2 : Int32) < (6 : Int32))).2.1 k) ?_
  show Go p e below _ (T_111.setTop (mkF m 14 #[vR a1, vI 2, vI 6, vR r_103, vI 2] []))
  refine Go.step (fun _ k => XS.aloadN X_111.here hx rfl (hb hby d_jdk_52_method_14_code_14) rfl rfl k) ?_
  refine Go.step (fun _ k => XS.iload X_111.here hx rfl (hb hby d_jdk_52_method_14_code_15) rfl  k) ?_
  refine Go.step (fun _ k => XS.aloadN X_111.here hx rfl (hb hby d_jdk_52_method_14_code_17) rfl rfl k) ?_
  refine Go.step (fun _ k => XS.iloadN X_111.here hx rfl (hb hby d_jdk_52_method_14_code_18) rfl  k) ?_
  show Go p e below _ (T_111.setTop (mkF m 19 #[vR a1, vI 2, vI 6, vR r_103, vI 2] [(.int (2 : Int32)), (.ref a1), (.int (2 : Int32)), (.ref r_103)]))
  have f113 : Arv Z T_111.heap a1 k1 .char (6 : Int32) [(.int c0), (.int c1), (.int c2), (.int c3), (.int c4), (.int c5)] (.int (0 : Int32)) := (f109.keep K_111 (ninS (Nat.ne_of_lt (Nat.lt_of_lt_of_le A_a1.lt (Nat.le_trans (Nat.le_refl _) u0_103))) nin0))
  have cp114 := f113
  obtain ⟨cl_112, Ar_112, -, Sz_112, -, Hs_112, -⟩ := cp114
  have hin_112 : ¬ ((2 : Int32) < 0 ∨ cl_112.slots.size ≤ ((2 : Int32)).toNatClampNeg) := (inb_of Sz_112 ⟨by decide, by decide⟩)
  have hat_112 : cl_112.slots[((2 : Int32)).toNatClampNeg]? = some (.int c2) := (Hs_112.at (inb_of Sz_112 ⟨by decide, by decide⟩) rfl)
  refine Go.step (fun _ k => X_111.caload hx (j := (2 : Int32)) (v := (.int c2)) (by exact Ar_112.1) (State.isArrayOf_alike hZ.alike Ar_112.2.1) Ar_112.2.2 hin_112 hat_112 (g := (mkF m 19 #[vR a1, vI 2, vI 6, vR r_103, vI 2] [(.int (2 : Int32)), (.ref a1), (.int (2 : Int32)), (.ref r_103)])) rfl rfl (hb hby d_jdk_52_method_14_code_19) _ k) ?_
  show Go p e below _ (T_111.setTop (mkF m 20 #[vR a1, vI 2, vI 6, vR r_103, vI 2] [(.int c2), (.int (2 : Int32)), (.ref r_103)]))
  obtain ⟨v_115, T_115, L_115, X_115, hQ_115, st_115⟩ := goS X_111 hx hZ (y := Y_2) hown (wd_39 hw) (wd_40 hw) (wd_23 hw) (wd_41 hw) (by decide) (backOf (W := 0) (rm_putc2 l Z a0 hw zc vfm (r_103) (kr_103) (c2) ((lo8 c0)) ((hi8 c0)) ((lo8 c1)) ((hi8 c1)) ((0 : Int32)) ((0 : Int32)) ((0 : Int32)) ((0 : Int32)) ((0 : Int32)) ((0 : Int32)) ((0 : Int32)) ((0 : Int32)) T_111.heap n0 (Nat.le_trans Z0 KP_111.1) u0_111 g_r_103 hSt O_111) hZ (wd_41 hw) (wd_23 hw) (by decide) (by decide)) rfl (g := (mkF m 20 #[vR a1, vI 2, vI 6, vR r_103, vI 2] [(.int c2), (.int (2 : Int32)), (.ref r_103)])) rfl (by rw [hml]; rfl) (argsL := [(.ref r_103), (.int (2 : Int32)), (.int c2)]) (rest := []) rfl (lenOf pd_2 rfl) rfl (by show 2 * 0 + _ ≤ _; exact Nat.le_of_eq rfl) (hb hby d_jdk_52_method_14_code_20) (by decide) (by decide)
  obtain ⟨rfl, Nq_115, K_115, u0_115⟩ := hQ_115
  have N_115 := Fr.app N_111 Nq_115
  have le_115 : T_111.heap.size ≤ T_115.heap.size := K_115.1
  have KP_115 := KP_111.trans K_115 (allS (Or.inr sz_r_103) all0)
  have O_115 := O_111.keep K_115 (allS g_r_103 all0)
  refine Go.step st_115 ?_
  show Go p e below _ (T_115.setTop (mkF m 23 #[vR a1, vI 2, vI 6, vR r_103, vI 2] []))
  refine Go.step (fun _ k => XS.iinc X_115.here hx rfl (hb hby d_jdk_52_method_14_code_23) rfl (l' := #[vR a1, vI ((2 : Int32) + (1 : Int32)), vI 6, vR r_103, vI 2]) rfl k) ?_
  show Go p e below _ (T_115.setTop (mkF m 26 #[vR a1, vI ((2 : Int32) + (1 : Int32)), vI 6, vR r_103, vI 2] []))
  rw [show ((2 : Int32) + (1 : Int32)) = (3 : Int32) from by decide]
  show Go p e below _ (T_115.setTop (mkF m 26 #[vR a1, vI 3, vI 6, vR r_103, vI 2] []))
  refine Go.step (fun _ k => XS.iinc X_115.here hx rfl (hb hby d_jdk_52_method_14_code_26) rfl (l' := #[vR a1, vI 3, vI 6, vR r_103, vI ((2 : Int32) + (1 : Int32))]) rfl k) ?_
  show Go p e below _ (T_115.setTop (mkF m 29 #[vR a1, vI 3, vI 6, vR r_103, vI ((2 : Int32) + (1 : Int32))] []))
  rw [show ((2 : Int32) + (1 : Int32)) = (3 : Int32) from by decide]
  show Go p e below _ (T_115.setTop (mkF m 29 #[vR a1, vI 3, vI 6, vR r_103, vI 3] []))
  refine Go.step (fun _ k => XS.goto X_115.here hx rfl (pc0 := 29) (pc' := 8) rfl (hb hby d_jdk_52_method_14_code_29) (by decide) (by decide) k) ?_
  show Go p e below _ (T_115.setTop (mkF m 8 #[vR a1, vI 3, vI 6, vR r_103, vI 3] []))
  refine Go.step (fun _ k => XS.iload X_115.here hx rfl (hb hby d_jdk_52_method_14_code_8) rfl  k) ?_
  refine Go.step (fun _ k => XS.iloadN X_115.here hx rfl (hb hby d_jdk_52_method_14_code_10) rfl  k) ?_
  show Go p e below _ (T_115.setTop (mkF m 11 #[vR a1, vI 3, vI 6, vR r_103, vI 3] [(.int (6 : Int32)), (.int (3 : Int32))]))
  refine Go.step (fun _ k => XS.icmpNo X_115.here hx rfl (hb hby d_jdk_52_method_14_code_11) rfl (tlt ((by decide) : (3 : Int32) < (6 : Int32))).2.1 k) ?_
  show Go p e below _ (T_115.setTop (mkF m 14 #[vR a1, vI 3, vI 6, vR r_103, vI 3] []))
  refine Go.step (fun _ k => XS.aloadN X_115.here hx rfl (hb hby d_jdk_52_method_14_code_14) rfl rfl k) ?_
  refine Go.step (fun _ k => XS.iload X_115.here hx rfl (hb hby d_jdk_52_method_14_code_15) rfl  k) ?_
  refine Go.step (fun _ k => XS.aloadN X_115.here hx rfl (hb hby d_jdk_52_method_14_code_17) rfl rfl k) ?_
  refine Go.step (fun _ k => XS.iloadN X_115.here hx rfl (hb hby d_jdk_52_method_14_code_18) rfl  k) ?_
  show Go p e below _ (T_115.setTop (mkF m 19 #[vR a1, vI 3, vI 6, vR r_103, vI 3] [(.int (3 : Int32)), (.ref a1), (.int (3 : Int32)), (.ref r_103)]))
  have f117 : Arv Z T_115.heap a1 k1 .char (6 : Int32) [(.int c0), (.int c1), (.int c2), (.int c3), (.int c4), (.int c5)] (.int (0 : Int32)) := (f113.keep K_115 (ninS (Nat.ne_of_lt (Nat.lt_of_lt_of_le A_a1.lt (Nat.le_trans (Nat.le_refl _) u0_103))) nin0))
  have cp118 := f117
  obtain ⟨cl_116, Ar_116, -, Sz_116, -, Hs_116, -⟩ := cp118
  have hin_116 : ¬ ((3 : Int32) < 0 ∨ cl_116.slots.size ≤ ((3 : Int32)).toNatClampNeg) := (inb_of Sz_116 ⟨by decide, by decide⟩)
  have hat_116 : cl_116.slots[((3 : Int32)).toNatClampNeg]? = some (.int c3) := (Hs_116.at (inb_of Sz_116 ⟨by decide, by decide⟩) rfl)
  refine Go.step (fun _ k => X_115.caload hx (j := (3 : Int32)) (v := (.int c3)) (by exact Ar_116.1) (State.isArrayOf_alike hZ.alike Ar_116.2.1) Ar_116.2.2 hin_116 hat_116 (g := (mkF m 19 #[vR a1, vI 3, vI 6, vR r_103, vI 3] [(.int (3 : Int32)), (.ref a1), (.int (3 : Int32)), (.ref r_103)])) rfl rfl (hb hby d_jdk_52_method_14_code_19) _ k) ?_
  show Go p e below _ (T_115.setTop (mkF m 20 #[vR a1, vI 3, vI 6, vR r_103, vI 3] [(.int c3), (.int (3 : Int32)), (.ref r_103)]))
  obtain ⟨v_119, T_119, L_119, X_119, hQ_119, st_119⟩ := goS X_115 hx hZ (y := Y_2) hown (wd_39 hw) (wd_40 hw) (wd_23 hw) (wd_41 hw) (by decide) (backOf (W := 0) (rm_putc3 l Z a0 hw zc vfm (r_103) (kr_103) (c3) ((lo8 c0)) ((hi8 c0)) ((lo8 c1)) ((hi8 c1)) ((lo8 c2)) ((hi8 c2)) ((0 : Int32)) ((0 : Int32)) ((0 : Int32)) ((0 : Int32)) ((0 : Int32)) ((0 : Int32)) T_115.heap n0 (Nat.le_trans Z0 KP_115.1) u0_115 g_r_103 hSt O_115) hZ (wd_41 hw) (wd_23 hw) (by decide) (by decide)) rfl (g := (mkF m 20 #[vR a1, vI 3, vI 6, vR r_103, vI 3] [(.int c3), (.int (3 : Int32)), (.ref r_103)])) rfl (by rw [hml]; rfl) (argsL := [(.ref r_103), (.int (3 : Int32)), (.int c3)]) (rest := []) rfl (lenOf pd_2 rfl) rfl (by show 2 * 0 + _ ≤ _; exact Nat.le_of_eq rfl) (hb hby d_jdk_52_method_14_code_20) (by decide) (by decide)
  obtain ⟨rfl, Nq_119, K_119, u0_119⟩ := hQ_119
  have N_119 := Fr.app N_115 Nq_119
  have le_119 : T_115.heap.size ≤ T_119.heap.size := K_119.1
  have KP_119 := KP_115.trans K_119 (allS (Or.inr sz_r_103) all0)
  have O_119 := O_115.keep K_119 (allS g_r_103 all0)
  refine Go.step st_119 ?_
  show Go p e below _ (T_119.setTop (mkF m 23 #[vR a1, vI 3, vI 6, vR r_103, vI 3] []))
  refine Go.step (fun _ k => XS.iinc X_119.here hx rfl (hb hby d_jdk_52_method_14_code_23) rfl (l' := #[vR a1, vI ((3 : Int32) + (1 : Int32)), vI 6, vR r_103, vI 3]) rfl k) ?_
  show Go p e below _ (T_119.setTop (mkF m 26 #[vR a1, vI ((3 : Int32) + (1 : Int32)), vI 6, vR r_103, vI 3] []))
  rw [show ((3 : Int32) + (1 : Int32)) = (4 : Int32) from by decide]
  show Go p e below _ (T_119.setTop (mkF m 26 #[vR a1, vI 4, vI 6, vR r_103, vI 3] []))
  refine Go.step (fun _ k => XS.iinc X_119.here hx rfl (hb hby d_jdk_52_method_14_code_26) rfl (l' := #[vR a1, vI 4, vI 6, vR r_103, vI ((3 : Int32) + (1 : Int32))]) rfl k) ?_
  show Go p e below _ (T_119.setTop (mkF m 29 #[vR a1, vI 4, vI 6, vR r_103, vI ((3 : Int32) + (1 : Int32))] []))
  rw [show ((3 : Int32) + (1 : Int32)) = (4 : Int32) from by decide]
  show Go p e below _ (T_119.setTop (mkF m 29 #[vR a1, vI 4, vI 6, vR r_103, vI 4] []))
  refine Go.step (fun _ k => XS.goto X_119.here hx rfl (pc0 := 29) (pc' := 8) rfl (hb hby d_jdk_52_method_14_code_29) (by decide) (by decide) k) ?_
  show Go p e below _ (T_119.setTop (mkF m 8 #[vR a1, vI 4, vI 6, vR r_103, vI 4] []))
  refine Go.step (fun _ k => XS.iload X_119.here hx rfl (hb hby d_jdk_52_method_14_code_8) rfl  k) ?_
  refine Go.step (fun _ k => XS.iloadN X_119.here hx rfl (hb hby d_jdk_52_method_14_code_10) rfl  k) ?_
  show Go p e below _ (T_119.setTop (mkF m 11 #[vR a1, vI 4, vI 6, vR r_103, vI 4] [(.int (6 : Int32)), (.int (4 : Int32))]))
  refine Go.step (fun _ k => XS.icmpNo X_119.here hx rfl (hb hby d_jdk_52_method_14_code_11) rfl (tlt ((by decide) : (4 : Int32) < (6 : Int32))).2.1 k) ?_
  show Go p e below _ (T_119.setTop (mkF m 14 #[vR a1, vI 4, vI 6, vR r_103, vI 4] []))
  refine Go.step (fun _ k => XS.aloadN X_119.here hx rfl (hb hby d_jdk_52_method_14_code_14) rfl rfl k) ?_
  refine Go.step (fun _ k => XS.iload X_119.here hx rfl (hb hby d_jdk_52_method_14_code_15) rfl  k) ?_
  refine Go.step (fun _ k => XS.aloadN X_119.here hx rfl (hb hby d_jdk_52_method_14_code_17) rfl rfl k) ?_
  refine Go.step (fun _ k => XS.iloadN X_119.here hx rfl (hb hby d_jdk_52_method_14_code_18) rfl  k) ?_
  show Go p e below _ (T_119.setTop (mkF m 19 #[vR a1, vI 4, vI 6, vR r_103, vI 4] [(.int (4 : Int32)), (.ref a1), (.int (4 : Int32)), (.ref r_103)]))
  have f121 : Arv Z T_119.heap a1 k1 .char (6 : Int32) [(.int c0), (.int c1), (.int c2), (.int c3), (.int c4), (.int c5)] (.int (0 : Int32)) := (f117.keep K_119 (ninS (Nat.ne_of_lt (Nat.lt_of_lt_of_le A_a1.lt (Nat.le_trans (Nat.le_refl _) u0_103))) nin0))
  have cp122 := f121
  obtain ⟨cl_120, Ar_120, -, Sz_120, -, Hs_120, -⟩ := cp122
  have hin_120 : ¬ ((4 : Int32) < 0 ∨ cl_120.slots.size ≤ ((4 : Int32)).toNatClampNeg) := (inb_of Sz_120 ⟨by decide, by decide⟩)
  have hat_120 : cl_120.slots[((4 : Int32)).toNatClampNeg]? = some (.int c4) := (Hs_120.at (inb_of Sz_120 ⟨by decide, by decide⟩) rfl)
  refine Go.step (fun _ k => X_119.caload hx (j := (4 : Int32)) (v := (.int c4)) (by exact Ar_120.1) (State.isArrayOf_alike hZ.alike Ar_120.2.1) Ar_120.2.2 hin_120 hat_120 (g := (mkF m 19 #[vR a1, vI 4, vI 6, vR r_103, vI 4] [(.int (4 : Int32)), (.ref a1), (.int (4 : Int32)), (.ref r_103)])) rfl rfl (hb hby d_jdk_52_method_14_code_19) _ k) ?_
  show Go p e below _ (T_119.setTop (mkF m 20 #[vR a1, vI 4, vI 6, vR r_103, vI 4] [(.int c4), (.int (4 : Int32)), (.ref r_103)]))
  obtain ⟨v_123, T_123, L_123, X_123, hQ_123, st_123⟩ := goS X_119 hx hZ (y := Y_2) hown (wd_39 hw) (wd_40 hw) (wd_23 hw) (wd_41 hw) (by decide) (backOf (W := 0) (rm_putc4 l Z a0 hw zc vfm (r_103) (kr_103) (c4) ((lo8 c0)) ((hi8 c0)) ((lo8 c1)) ((hi8 c1)) ((lo8 c2)) ((hi8 c2)) ((lo8 c3)) ((hi8 c3)) ((0 : Int32)) ((0 : Int32)) ((0 : Int32)) ((0 : Int32)) T_119.heap n0 (Nat.le_trans Z0 KP_119.1) u0_119 g_r_103 hSt O_119) hZ (wd_41 hw) (wd_23 hw) (by decide) (by decide)) rfl (g := (mkF m 20 #[vR a1, vI 4, vI 6, vR r_103, vI 4] [(.int c4), (.int (4 : Int32)), (.ref r_103)])) rfl (by rw [hml]; rfl) (argsL := [(.ref r_103), (.int (4 : Int32)), (.int c4)]) (rest := []) rfl (lenOf pd_2 rfl) rfl (by show 2 * 0 + _ ≤ _; exact Nat.le_of_eq rfl) (hb hby d_jdk_52_method_14_code_20) (by decide) (by decide)
  obtain ⟨rfl, Nq_123, K_123, u0_123⟩ := hQ_123
  have N_123 := Fr.app N_119 Nq_123
  have le_123 : T_119.heap.size ≤ T_123.heap.size := K_123.1
  have KP_123 := KP_119.trans K_123 (allS (Or.inr sz_r_103) all0)
  have O_123 := O_119.keep K_123 (allS g_r_103 all0)
  refine Go.step st_123 ?_
  show Go p e below _ (T_123.setTop (mkF m 23 #[vR a1, vI 4, vI 6, vR r_103, vI 4] []))
  refine Go.step (fun _ k => XS.iinc X_123.here hx rfl (hb hby d_jdk_52_method_14_code_23) rfl (l' := #[vR a1, vI ((4 : Int32) + (1 : Int32)), vI 6, vR r_103, vI 4]) rfl k) ?_
  show Go p e below _ (T_123.setTop (mkF m 26 #[vR a1, vI ((4 : Int32) + (1 : Int32)), vI 6, vR r_103, vI 4] []))
  rw [show ((4 : Int32) + (1 : Int32)) = (5 : Int32) from by decide]
  show Go p e below _ (T_123.setTop (mkF m 26 #[vR a1, vI 5, vI 6, vR r_103, vI 4] []))
  refine Go.step (fun _ k => XS.iinc X_123.here hx rfl (hb hby d_jdk_52_method_14_code_26) rfl (l' := #[vR a1, vI 5, vI 6, vR r_103, vI ((4 : Int32) + (1 : Int32))]) rfl k) ?_
  show Go p e below _ (T_123.setTop (mkF m 29 #[vR a1, vI 5, vI 6, vR r_103, vI ((4 : Int32) + (1 : Int32))] []))
  rw [show ((4 : Int32) + (1 : Int32)) = (5 : Int32) from by decide]
  show Go p e below _ (T_123.setTop (mkF m 29 #[vR a1, vI 5, vI 6, vR r_103, vI 5] []))
  refine Go.step (fun _ k => XS.goto X_123.here hx rfl (pc0 := 29) (pc' := 8) rfl (hb hby d_jdk_52_method_14_code_29) (by decide) (by decide) k) ?_
  show Go p e below _ (T_123.setTop (mkF m 8 #[vR a1, vI 5, vI 6, vR r_103, vI 5] []))
  refine Go.step (fun _ k => XS.iload X_123.here hx rfl (hb hby d_jdk_52_method_14_code_8) rfl  k) ?_
  refine Go.step (fun _ k => XS.iloadN X_123.here hx rfl (hb hby d_jdk_52_method_14_code_10) rfl  k) ?_
  show Go p e below _ (T_123.setTop (mkF m 11 #[vR a1, vI 5, vI 6, vR r_103, vI 5] [(.int (6 : Int32)), (.int (5 : Int32))]))
  refine Go.step (fun _ k => XS.icmpNo X_123.here hx rfl (hb hby d_jdk_52_method_14_code_11) rfl (tlt ((by decide) : (5 : Int32) < (6 : Int32))).2.1 k) ?_
  show Go p e below _ (T_123.setTop (mkF m 14 #[vR a1, vI 5, vI 6, vR r_103, vI 5] []))
  refine Go.step (fun _ k => XS.aloadN X_123.here hx rfl (hb hby d_jdk_52_method_14_code_14) rfl rfl k) ?_
  refine Go.step (fun _ k => XS.iload X_123.here hx rfl (hb hby d_jdk_52_method_14_code_15) rfl  k) ?_
  refine Go.step (fun _ k => XS.aloadN X_123.here hx rfl (hb hby d_jdk_52_method_14_code_17) rfl rfl k) ?_
  refine Go.step (fun _ k => XS.iloadN X_123.here hx rfl (hb hby d_jdk_52_method_14_code_18) rfl  k) ?_
  show Go p e below _ (T_123.setTop (mkF m 19 #[vR a1, vI 5, vI 6, vR r_103, vI 5] [(.int (5 : Int32)), (.ref a1), (.int (5 : Int32)), (.ref r_103)]))
  have f125 : Arv Z T_123.heap a1 k1 .char (6 : Int32) [(.int c0), (.int c1), (.int c2), (.int c3), (.int c4), (.int c5)] (.int (0 : Int32)) := (f121.keep K_123 (ninS (Nat.ne_of_lt (Nat.lt_of_lt_of_le A_a1.lt (Nat.le_trans (Nat.le_refl _) u0_103))) nin0))
  have cp126 := f125
  obtain ⟨cl_124, Ar_124, -, Sz_124, -, Hs_124, -⟩ := cp126
  have hin_124 : ¬ ((5 : Int32) < 0 ∨ cl_124.slots.size ≤ ((5 : Int32)).toNatClampNeg) := (inb_of Sz_124 ⟨by decide, by decide⟩)
  have hat_124 : cl_124.slots[((5 : Int32)).toNatClampNeg]? = some (.int c5) := (Hs_124.at (inb_of Sz_124 ⟨by decide, by decide⟩) rfl)
  refine Go.step (fun _ k => X_123.caload hx (j := (5 : Int32)) (v := (.int c5)) (by exact Ar_124.1) (State.isArrayOf_alike hZ.alike Ar_124.2.1) Ar_124.2.2 hin_124 hat_124 (g := (mkF m 19 #[vR a1, vI 5, vI 6, vR r_103, vI 5] [(.int (5 : Int32)), (.ref a1), (.int (5 : Int32)), (.ref r_103)])) rfl rfl (hb hby d_jdk_52_method_14_code_19) _ k) ?_
  show Go p e below _ (T_123.setTop (mkF m 20 #[vR a1, vI 5, vI 6, vR r_103, vI 5] [(.int c5), (.int (5 : Int32)), (.ref r_103)]))
  obtain ⟨v_127, T_127, L_127, X_127, hQ_127, st_127⟩ := goS X_123 hx hZ (y := Y_2) hown (wd_39 hw) (wd_40 hw) (wd_23 hw) (wd_41 hw) (by decide) (backOf (W := 0) (rm_putc5 l Z a0 hw zc vfm (r_103) (kr_103) (c5) ((lo8 c0)) ((hi8 c0)) ((lo8 c1)) ((hi8 c1)) ((lo8 c2)) ((hi8 c2)) ((lo8 c3)) ((hi8 c3)) ((lo8 c4)) ((hi8 c4)) ((0 : Int32)) ((0 : Int32)) T_123.heap n0 (Nat.le_trans Z0 KP_123.1) u0_123 g_r_103 hSt O_123) hZ (wd_41 hw) (wd_23 hw) (by decide) (by decide)) rfl (g := (mkF m 20 #[vR a1, vI 5, vI 6, vR r_103, vI 5] [(.int c5), (.int (5 : Int32)), (.ref r_103)])) rfl (by rw [hml]; rfl) (argsL := [(.ref r_103), (.int (5 : Int32)), (.int c5)]) (rest := []) rfl (lenOf pd_2 rfl) rfl (by show 2 * 0 + _ ≤ _; exact Nat.le_of_eq rfl) (hb hby d_jdk_52_method_14_code_20) (by decide) (by decide)
  obtain ⟨rfl, Nq_127, K_127, u0_127⟩ := hQ_127
  have N_127 := Fr.app N_123 Nq_127
  have le_127 : T_123.heap.size ≤ T_127.heap.size := K_127.1
  have KP_127 := KP_123.trans K_127 (allS (Or.inr sz_r_103) all0)
  have O_127 := O_123.keep K_127 (allS g_r_103 all0)
  refine Go.step st_127 ?_
  show Go p e below _ (T_127.setTop (mkF m 23 #[vR a1, vI 5, vI 6, vR r_103, vI 5] []))
  refine Go.step (fun _ k => XS.iinc X_127.here hx rfl (hb hby d_jdk_52_method_14_code_23) rfl (l' := #[vR a1, vI ((5 : Int32) + (1 : Int32)), vI 6, vR r_103, vI 5]) rfl k) ?_
  show Go p e below _ (T_127.setTop (mkF m 26 #[vR a1, vI ((5 : Int32) + (1 : Int32)), vI 6, vR r_103, vI 5] []))
  rw [show ((5 : Int32) + (1 : Int32)) = (6 : Int32) from by decide]
  show Go p e below _ (T_127.setTop (mkF m 26 #[vR a1, vI 6, vI 6, vR r_103, vI 5] []))
  refine Go.step (fun _ k => XS.iinc X_127.here hx rfl (hb hby d_jdk_52_method_14_code_26) rfl (l' := #[vR a1, vI 6, vI 6, vR r_103, vI ((5 : Int32) + (1 : Int32))]) rfl k) ?_
  show Go p e below _ (T_127.setTop (mkF m 29 #[vR a1, vI 6, vI 6, vR r_103, vI ((5 : Int32) + (1 : Int32))] []))
  rw [show ((5 : Int32) + (1 : Int32)) = (6 : Int32) from by decide]
  show Go p e below _ (T_127.setTop (mkF m 29 #[vR a1, vI 6, vI 6, vR r_103, vI 6] []))
  refine Go.step (fun _ k => XS.goto X_127.here hx rfl (pc0 := 29) (pc' := 8) rfl (hb hby d_jdk_52_method_14_code_29) (by decide) (by decide) k) ?_
  show Go p e below _ (T_127.setTop (mkF m 8 #[vR a1, vI 6, vI 6, vR r_103, vI 6] []))
  refine Go.step (fun _ k => XS.iload X_127.here hx rfl (hb hby d_jdk_52_method_14_code_8) rfl  k) ?_
  refine Go.step (fun _ k => XS.iloadN X_127.here hx rfl (hb hby d_jdk_52_method_14_code_10) rfl  k) ?_
  show Go p e below _ (T_127.setTop (mkF m 11 #[vR a1, vI 6, vI 6, vR r_103, vI 6] [(.int (6 : Int32)), (.int (6 : Int32))]))
  refine Go.step (fun _ k => XS.icmpYes X_127.here hx rfl (pc0 := 11) (pc' := 32) rfl (hb hby d_jdk_52_method_14_code_11) rfl (flt ((by decide) : ¬ ((6 : Int32) < (6 : Int32)))).2.1 (by decide) (by decide) k) ?_
  show Go p e below _ (T_127.setTop (mkF m 32 #[vR a1, vI 6, vI 6, vR r_103, vI 6] []))
  refine Go.step (fun _ k => XS.aloadN X_127.here hx rfl (hb hby d_jdk_52_method_14_code_32) rfl rfl k) ?_
  show Go p e below _ (T_127.setTop (mkF m 33 #[vR a1, vI 6, vI 6, vR r_103, vI 6] [(.ref r_103)]))
  exact Go.retV X_127 hx hlk hret rfl (Or.inr (Or.inr (Or.inr (Or.inr ⟨rfl, rfl, rfl⟩)))) (hb hby d_jdk_52_method_14_code_33) (by decide) (by decide) (by exact ⟨r_103, kr_103, rfl, N_127, KP_127, sz_r_103, u0_127⟩)
--@E
--@C getc
def Q_getc (Z : State) (zc : Int32) (vfm : Value) (a1 : Addr) (k1 : ClassId) (c0 : Int32) (c1 : Int32) (c2 : Int32) (c3 : Int32) (c4 : Int32) (c5 : Int32) (i1 : Int32) (h0 : Heap) (n0 : Nat) (v : Option Value) (h : Heap) (L : List Loc) : Prop := v = some (.int (sel c0 c1 c2 c3 c4 c5 i1)) ∧ Fr n0 L ∧ h = h0
set_option maxRecDepth 65536 in
set_option maxHeartbeats 40000000 in
theorem rm_getc (l : Launch) (Z : State) (a0 : Array Value) (hw : ∀ d ∈ tables_1, d.before a0 Z = true) (zc : Int32) (vfm : Value) (a1 : Addr) (k1 : ClassId) (c0 : Int32) (c1 : Int32) (c2 : Int32) (c3 : Int32) (c4 : Int32) (c5 : Int32) (i1 : Int32) (h0 : Heap) (n0 : Nat) (Z0 : n0 ≤ h0.size) (A_a1 : Arv Z h0 a1 k1 .byte (12 : Int32) [(.int (lo8 c0)), (.int (hi8 c0)), (.int (lo8 c1)), (.int (hi8 c1)), (.int (lo8 c2)), (.int (hi8 c2)), (.int (lo8 c3)), (.int (hi8 c3)), (.int (lo8 c4)), (.int (hi8 c4)), (.int (lo8 c5)), (.int (hi8 c5))] (.int (0 : Int32))) (hi : (0 ≤ i1.toInt ∧ i1.toInt < 6)) (h_c0 : (0 ≤ c0.toInt ∧ c0.toInt ≤ 65535)) (h_c1 : (0 ≤ c1.toInt ∧ c1.toInt ≤ 65535)) (h_c2 : (0 ≤ c2.toInt ∧ c2.toInt ≤ 65535)) (h_c3 : (0 ≤ c3.toInt ∧ c3.toInt ≤ 65535)) (h_c4 : (0 ≤ c4.toInt ∧ c4.toInt ≤ 65535)) (h_c5 : (0 ≤ c5.toInt ∧ c5.toInt ≤ 65535)) (hSt : St Z zc vfm) (hO : Old Z n0 h0) :
    CN l Z ({ cls := "java/lang/StringUTF16", name := "getChar", desc := "([BI)C" } : Jvm.MethodName) [(Jvm.Cond.code ({ cls := "java/lang/StringUTF16", name := "getChar", desc := "([BI)C" } : Jvm.MethodName) jdk_52_method_5_code (2 : Nat) (Option.some Jvm.ClassFile.FieldType.char))] ({ frames := 0, cells := 0, slots := 0, locals := 0 } : Room) #[(.ref a1), (.int i1)] h0 (Q_getc Z zc vfm a1 k1 c0 c1 c2 c3 c4 c5 i1 h0 n0) := by
  refine CN.of (L0 := #[vR a1, vI i1]) (plainFor_of_name pn_1) (fun m => by first | (simp [entryFrame, mkF, argsToLocals, Value.category]; done) | rfl) ?_
  intro p e s m below meth c s₁ hx hby hml hret hlk hZ hown hnm X0 e0
  have N0 := Fr.nil n0
  have KP0 := Keep.refl h0 []
  have hSt_ := hSt
  obtain ⟨S_cs, n_cs, S_fm, r_fm, S_ad, S_hi, S_lo⟩ := hSt_
  show Go p e below _ (s₁.setTop (mkF m 0 #[vR a1, vI i1] []))
  rcases (range6 hi) with rfl | rfl | rfl | rfl | rfl | rfl
  · skip
    show Go p e below _ (s₁.setTop (mkF m 0 #[vR a1, vI 0] []))
    obtain ⟨T_128, X_128, e_128, st_128⟩ := getS2 X0 hx hZ hown (host := "") (Or.inl (wd_42 hw)) Via.refl e0 (S_ad.ext hO.2) (g := (mkF m 0 #[vR a1, vI 0] [])) rfl (hb hby d_jdk_52_method_5_code_0)
    refine Go.step st_128 ?_
    show Go p e below _ (T_128.setTop (mkF m 3 #[vR a1, vI 0] [(.int (1 : Int32))]))
    refine Go.step (fun _ k => XS.ifYes X_128.here hx rfl (pc0 := 3) (pc' := 28) rfl (hb hby d_jdk_52_method_5_code_3) rfl ((if0 _ _).trans (feq ((by decide) : ¬ ((1 : Int32) = (0 : Int32)))).2) (by decide) (by decide) k) ?_
    show Go p e below _ (T_128.setTop (mkF m 28 #[vR a1, vI 0] []))
    refine Go.step (fun _ k => XS.iloadN X_128.here hx rfl (hb hby d_jdk_52_method_5_code_28) rfl  k) ?_
    refine Go.step (fun _ k => XS.iconst X_128.here hx rfl (hb hby d_jdk_52_method_5_code_29) k) ?_
    show Go p e below _ (T_128.setTop (mkF m 30 #[vR a1, vI 0] [(.int (1 : Int32)), (.int (0 : Int32))]))
    refine Go.step (fun _ k => XS.ishl X_128.here hx rfl (hb hby d_jdk_52_method_5_code_30) rfl k) ?_
    show Go p e below _ (T_128.setTop (mkF m 31 #[vR a1, vI 0] [(.int ((0 : Int32) <<< ((1 : Int32) &&& 31)))]))
    refine own_top (congrArg Value.int (show ((0 : Int32) <<< ((1 : Int32) &&& 31)) = (0 : Int32) from by decide)) ?_
    show Go p e below _ (T_128.setTop (mkF m 31 #[vR a1, vI 0] [(.int (0 : Int32))]))
    refine Go.step (fun _ k => XS.istoreN X_128.here hx rfl (hb hby d_jdk_52_method_5_code_31) rfl (l' := #[vR a1, vI 0]) rfl k) ?_
    show Go p e below _ (T_128.setTop (mkF m 32 #[vR a1, vI 0] []))
    refine Go.step (fun _ k => XS.aloadN X_128.here hx rfl (hb hby d_jdk_52_method_5_code_32) rfl rfl k) ?_
    refine Go.step (fun _ k => XS.iloadN X_128.here hx rfl (hb hby d_jdk_52_method_5_code_33) rfl  k) ?_
    show Go p e below _ (T_128.setTop (mkF m 34 #[vR a1, vI 0] [(.int (0 : Int32)), (.ref a1)]))
    refine Go.step (fun _ k => XS.iinc X_128.here hx rfl (hb hby d_jdk_52_method_5_code_34) rfl (l' := #[vR a1, vI ((0 : Int32) + (1 : Int32))]) rfl k) ?_
    show Go p e below _ (T_128.setTop (mkF m 37 #[vR a1, vI ((0 : Int32) + (1 : Int32))] [(.int (0 : Int32)), (.ref a1)]))
    rw [show ((0 : Int32) + (1 : Int32)) = (1 : Int32) from by decide]
    show Go p e below _ (T_128.setTop (mkF m 37 #[vR a1, vI 1] [(.int (0 : Int32)), (.ref a1)]))
    have cp130 := A_a1
    obtain ⟨cl_129, Ar_129, -, Sz_129, -, Hs_129, -⟩ := cp130
    have hin_129 : ¬ ((0 : Int32) < 0 ∨ cl_129.slots.size ≤ ((0 : Int32)).toNatClampNeg) := (inb_of Sz_129 ⟨by decide, by decide⟩)
    have hat_129 : cl_129.slots[((0 : Int32)).toNatClampNeg]? = some (.int (lo8 c0)) := (Hs_129.at (inb_of Sz_129 ⟨by decide, by decide⟩) rfl)
    refine Go.step (fun _ k => X_128.baloadBytes hx (j := (0 : Int32)) (v := (.int (lo8 c0))) (by rw [e_128]; exact Ar_129.1) (State.isArrayOf_alike hZ.alike Ar_129.2.1) Ar_129.2.2 hin_129 hat_129 (g := (mkF m 37 #[vR a1, vI 1] [(.int (0 : Int32)), (.ref a1)])) rfl rfl (hb hby d_jdk_52_method_5_code_37) _ k) ?_
    show Go p e below _ (T_128.setTop (mkF m 38 #[vR a1, vI 1] [(.int (lo8 c0))]))
    refine Go.step (fun _ k => XS.sipush X_128.here hx rfl (hb hby d_jdk_52_method_5_code_38) k) ?_
    show Go p e below _ (T_128.setTop (mkF m 41 #[vR a1, vI 1] [(.int (255 : Int32)), (.int (lo8 c0))]))
    refine Go.step (fun _ k => XS.iand X_128.here hx rfl (hb hby d_jdk_52_method_5_code_41) rfl k) ?_
    show Go p e below _ (T_128.setTop (mkF m 42 #[vR a1, vI 1] [(.int ((lo8 c0) &&& (255 : Int32)))]))
    obtain ⟨T_131, X_131, e_131, st_131⟩ := getS2 X_128 hx hZ hown (host := "") (Or.inl (wd_43 hw)) Via.refl e_128 (S_hi.ext hO.2) (g := (mkF m 42 #[vR a1, vI 1] [(.int ((lo8 c0) &&& (255 : Int32)))])) rfl (hb hby d_jdk_52_method_5_code_42)
    refine Go.step st_131 ?_
    show Go p e below _ (T_131.setTop (mkF m 45 #[vR a1, vI 1] [(.int (0 : Int32)), (.int ((lo8 c0) &&& (255 : Int32)))]))
    refine Go.step (fun _ k => XS.ishl X_131.here hx rfl (hb hby d_jdk_52_method_5_code_45) rfl k) ?_
    show Go p e below _ (T_131.setTop (mkF m 46 #[vR a1, vI 1] [(.int (((lo8 c0) &&& (255 : Int32)) <<< ((0 : Int32) &&& 31)))]))
    refine Go.step (fun _ k => XS.aloadN X_131.here hx rfl (hb hby d_jdk_52_method_5_code_46) rfl rfl k) ?_
    refine Go.step (fun _ k => XS.iloadN X_131.here hx rfl (hb hby d_jdk_52_method_5_code_47) rfl  k) ?_
    show Go p e below _ (T_131.setTop (mkF m 48 #[vR a1, vI 1] [(.int (1 : Int32)), (.ref a1), (.int (((lo8 c0) &&& (255 : Int32)) <<< ((0 : Int32) &&& 31)))]))
    have cp133 := A_a1
    obtain ⟨cl_132, Ar_132, -, Sz_132, -, Hs_132, -⟩ := cp133
    have hin_132 : ¬ ((1 : Int32) < 0 ∨ cl_132.slots.size ≤ ((1 : Int32)).toNatClampNeg) := (inb_of Sz_132 ⟨by decide, by decide⟩)
    have hat_132 : cl_132.slots[((1 : Int32)).toNatClampNeg]? = some (.int (hi8 c0)) := (Hs_132.at (inb_of Sz_132 ⟨by decide, by decide⟩) rfl)
    refine Go.step (fun _ k => X_131.baloadBytes hx (j := (1 : Int32)) (v := (.int (hi8 c0))) (by rw [e_131]; exact Ar_132.1) (State.isArrayOf_alike hZ.alike Ar_132.2.1) Ar_132.2.2 hin_132 hat_132 (g := (mkF m 48 #[vR a1, vI 1] [(.int (1 : Int32)), (.ref a1), (.int (((lo8 c0) &&& (255 : Int32)) <<< ((0 : Int32) &&& 31)))])) rfl rfl (hb hby d_jdk_52_method_5_code_48) _ k) ?_
    show Go p e below _ (T_131.setTop (mkF m 49 #[vR a1, vI 1] [(.int (hi8 c0)), (.int (((lo8 c0) &&& (255 : Int32)) <<< ((0 : Int32) &&& 31)))]))
    refine Go.step (fun _ k => XS.sipush X_131.here hx rfl (hb hby d_jdk_52_method_5_code_49) k) ?_
    show Go p e below _ (T_131.setTop (mkF m 52 #[vR a1, vI 1] [(.int (255 : Int32)), (.int (hi8 c0)), (.int (((lo8 c0) &&& (255 : Int32)) <<< ((0 : Int32) &&& 31)))]))
    refine Go.step (fun _ k => XS.iand X_131.here hx rfl (hb hby d_jdk_52_method_5_code_52) rfl k) ?_
    show Go p e below _ (T_131.setTop (mkF m 53 #[vR a1, vI 1] [(.int ((hi8 c0) &&& (255 : Int32))), (.int (((lo8 c0) &&& (255 : Int32)) <<< ((0 : Int32) &&& 31)))]))
    obtain ⟨T_134, X_134, e_134, st_134⟩ := getS2 X_131 hx hZ hown (host := "") (Or.inl (wd_44 hw)) Via.refl e_131 (S_lo.ext hO.2) (g := (mkF m 53 #[vR a1, vI 1] [(.int ((hi8 c0) &&& (255 : Int32))), (.int (((lo8 c0) &&& (255 : Int32)) <<< ((0 : Int32) &&& 31)))])) rfl (hb hby d_jdk_52_method_5_code_53)
    refine Go.step st_134 ?_
    show Go p e below _ (T_134.setTop (mkF m 56 #[vR a1, vI 1] [(.int (8 : Int32)), (.int ((hi8 c0) &&& (255 : Int32))), (.int (((lo8 c0) &&& (255 : Int32)) <<< ((0 : Int32) &&& 31)))]))
    refine Go.step (fun _ k => XS.ishl X_134.here hx rfl (hb hby d_jdk_52_method_5_code_56) rfl k) ?_
    show Go p e below _ (T_134.setTop (mkF m 57 #[vR a1, vI 1] [(.int (((hi8 c0) &&& (255 : Int32)) <<< ((8 : Int32) &&& 31))), (.int (((lo8 c0) &&& (255 : Int32)) <<< ((0 : Int32) &&& 31)))]))
    refine Go.step (fun _ k => XS.ior X_134.here hx rfl (hb hby d_jdk_52_method_5_code_57) rfl k) ?_
    show Go p e below _ (T_134.setTop (mkF m 58 #[vR a1, vI 1] [(.int ((((lo8 c0) &&& (255 : Int32)) <<< ((0 : Int32) &&& 31)) ||| (((hi8 c0) &&& (255 : Int32)) <<< ((8 : Int32) &&& 31))))]))
    refine Go.step (fun _ k => XS.i2c X_134.here hx rfl (hb hby d_jdk_52_method_5_code_58) rfl k) ?_
    show Go p e below _ (T_134.setTop (mkF m 59 #[vR a1, vI 1] [(.int (nar .char ((((lo8 c0) &&& (255 : Int32)) <<< ((0 : Int32) &&& 31)) ||| (((hi8 c0) &&& (255 : Int32)) <<< ((8 : Int32) &&& 31)))))]))
    refine own_top (congrArg Value.int (show (nar .char ((((lo8 c0) &&& (255 : Int32)) <<< ((0 : Int32) &&& 31)) ||| (((hi8 c0) &&& (255 : Int32)) <<< ((8 : Int32) &&& 31)))) = c0 from u16 h_c0)) ?_
    show Go p e below _ (T_134.setTop (mkF m 59 #[vR a1, vI 1] [(.int c0)]))
    exact Go.retV X_134 hx hlk hret (congrArg Value.int (nar_u h_c0)) (Or.inl ⟨rfl, Or.inr (Or.inr (Or.inr (Or.inl rfl))), _, rfl⟩) (hb hby d_jdk_52_method_5_code_59) (by decide) (by decide) (by rw [e_134]; exact ⟨rfl, N0, rfl⟩)
  · skip
    show Go p e below _ (s₁.setTop (mkF m 0 #[vR a1, vI 1] []))
    obtain ⟨T_135, X_135, e_135, st_135⟩ := getS2 X0 hx hZ hown (host := "") (Or.inl (wd_42 hw)) Via.refl e0 (S_ad.ext hO.2) (g := (mkF m 0 #[vR a1, vI 1] [])) rfl (hb hby d_jdk_52_method_5_code_0)
    refine Go.step st_135 ?_
    show Go p e below _ (T_135.setTop (mkF m 3 #[vR a1, vI 1] [(.int (1 : Int32))]))
    refine Go.step (fun _ k => XS.ifYes X_135.here hx rfl (pc0 := 3) (pc' := 28) rfl (hb hby d_jdk_52_method_5_code_3) rfl ((if0 _ _).trans (feq ((by decide) : ¬ ((1 : Int32) = (0 : Int32)))).2) (by decide) (by decide) k) ?_
    show Go p e below _ (T_135.setTop (mkF m 28 #[vR a1, vI 1] []))
    refine Go.step (fun _ k => XS.iloadN X_135.here hx rfl (hb hby d_jdk_52_method_5_code_28) rfl  k) ?_
    refine Go.step (fun _ k => XS.iconst X_135.here hx rfl (hb hby d_jdk_52_method_5_code_29) k) ?_
    show Go p e below _ (T_135.setTop (mkF m 30 #[vR a1, vI 1] [(.int (1 : Int32)), (.int (1 : Int32))]))
    refine Go.step (fun _ k => XS.ishl X_135.here hx rfl (hb hby d_jdk_52_method_5_code_30) rfl k) ?_
    show Go p e below _ (T_135.setTop (mkF m 31 #[vR a1, vI 1] [(.int ((1 : Int32) <<< ((1 : Int32) &&& 31)))]))
    refine own_top (congrArg Value.int (show ((1 : Int32) <<< ((1 : Int32) &&& 31)) = (2 : Int32) from by decide)) ?_
    show Go p e below _ (T_135.setTop (mkF m 31 #[vR a1, vI 1] [(.int (2 : Int32))]))
    refine Go.step (fun _ k => XS.istoreN X_135.here hx rfl (hb hby d_jdk_52_method_5_code_31) rfl (l' := #[vR a1, vI 2]) rfl k) ?_
    show Go p e below _ (T_135.setTop (mkF m 32 #[vR a1, vI 2] []))
    refine Go.step (fun _ k => XS.aloadN X_135.here hx rfl (hb hby d_jdk_52_method_5_code_32) rfl rfl k) ?_
    refine Go.step (fun _ k => XS.iloadN X_135.here hx rfl (hb hby d_jdk_52_method_5_code_33) rfl  k) ?_
    show Go p e below _ (T_135.setTop (mkF m 34 #[vR a1, vI 2] [(.int (2 : Int32)), (.ref a1)]))
    refine Go.step (fun _ k => XS.iinc X_135.here hx rfl (hb hby d_jdk_52_method_5_code_34) rfl (l' := #[vR a1, vI ((2 : Int32) + (1 : Int32))]) rfl k) ?_
    show Go p e below _ (T_135.setTop (mkF m 37 #[vR a1, vI ((2 : Int32) + (1 : Int32))] [(.int (2 : Int32)), (.ref a1)]))
    rw [show ((2 : Int32) + (1 : Int32)) = (3 : Int32) from by decide]
    show Go p e below _ (T_135.setTop (mkF m 37 #[vR a1, vI 3] [(.int (2 : Int32)), (.ref a1)]))
    have cp137 := A_a1
    obtain ⟨cl_136, Ar_136, -, Sz_136, -, Hs_136, -⟩ := cp137
    have hin_136 : ¬ ((2 : Int32) < 0 ∨ cl_136.slots.size ≤ ((2 : Int32)).toNatClampNeg) := (inb_of Sz_136 ⟨by decide, by decide⟩)
    have hat_136 : cl_136.slots[((2 : Int32)).toNatClampNeg]? = some (.int (lo8 c1)) := (Hs_136.at (inb_of Sz_136 ⟨by decide, by decide⟩) rfl)
    refine Go.step (fun _ k => X_135.baloadBytes hx (j := (2 : Int32)) (v := (.int (lo8 c1))) (by rw [e_135]; exact Ar_136.1) (State.isArrayOf_alike hZ.alike Ar_136.2.1) Ar_136.2.2 hin_136 hat_136 (g := (mkF m 37 #[vR a1, vI 3] [(.int (2 : Int32)), (.ref a1)])) rfl rfl (hb hby d_jdk_52_method_5_code_37) _ k) ?_
    show Go p e below _ (T_135.setTop (mkF m 38 #[vR a1, vI 3] [(.int (lo8 c1))]))
    refine Go.step (fun _ k => XS.sipush X_135.here hx rfl (hb hby d_jdk_52_method_5_code_38) k) ?_
    show Go p e below _ (T_135.setTop (mkF m 41 #[vR a1, vI 3] [(.int (255 : Int32)), (.int (lo8 c1))]))
    refine Go.step (fun _ k => XS.iand X_135.here hx rfl (hb hby d_jdk_52_method_5_code_41) rfl k) ?_
    show Go p e below _ (T_135.setTop (mkF m 42 #[vR a1, vI 3] [(.int ((lo8 c1) &&& (255 : Int32)))]))
    obtain ⟨T_138, X_138, e_138, st_138⟩ := getS2 X_135 hx hZ hown (host := "") (Or.inl (wd_43 hw)) Via.refl e_135 (S_hi.ext hO.2) (g := (mkF m 42 #[vR a1, vI 3] [(.int ((lo8 c1) &&& (255 : Int32)))])) rfl (hb hby d_jdk_52_method_5_code_42)
    refine Go.step st_138 ?_
    show Go p e below _ (T_138.setTop (mkF m 45 #[vR a1, vI 3] [(.int (0 : Int32)), (.int ((lo8 c1) &&& (255 : Int32)))]))
    refine Go.step (fun _ k => XS.ishl X_138.here hx rfl (hb hby d_jdk_52_method_5_code_45) rfl k) ?_
    show Go p e below _ (T_138.setTop (mkF m 46 #[vR a1, vI 3] [(.int (((lo8 c1) &&& (255 : Int32)) <<< ((0 : Int32) &&& 31)))]))
    refine Go.step (fun _ k => XS.aloadN X_138.here hx rfl (hb hby d_jdk_52_method_5_code_46) rfl rfl k) ?_
    refine Go.step (fun _ k => XS.iloadN X_138.here hx rfl (hb hby d_jdk_52_method_5_code_47) rfl  k) ?_
    show Go p e below _ (T_138.setTop (mkF m 48 #[vR a1, vI 3] [(.int (3 : Int32)), (.ref a1), (.int (((lo8 c1) &&& (255 : Int32)) <<< ((0 : Int32) &&& 31)))]))
    have cp140 := A_a1
    obtain ⟨cl_139, Ar_139, -, Sz_139, -, Hs_139, -⟩ := cp140
    have hin_139 : ¬ ((3 : Int32) < 0 ∨ cl_139.slots.size ≤ ((3 : Int32)).toNatClampNeg) := (inb_of Sz_139 ⟨by decide, by decide⟩)
    have hat_139 : cl_139.slots[((3 : Int32)).toNatClampNeg]? = some (.int (hi8 c1)) := (Hs_139.at (inb_of Sz_139 ⟨by decide, by decide⟩) rfl)
    refine Go.step (fun _ k => X_138.baloadBytes hx (j := (3 : Int32)) (v := (.int (hi8 c1))) (by rw [e_138]; exact Ar_139.1) (State.isArrayOf_alike hZ.alike Ar_139.2.1) Ar_139.2.2 hin_139 hat_139 (g := (mkF m 48 #[vR a1, vI 3] [(.int (3 : Int32)), (.ref a1), (.int (((lo8 c1) &&& (255 : Int32)) <<< ((0 : Int32) &&& 31)))])) rfl rfl (hb hby d_jdk_52_method_5_code_48) _ k) ?_
    show Go p e below _ (T_138.setTop (mkF m 49 #[vR a1, vI 3] [(.int (hi8 c1)), (.int (((lo8 c1) &&& (255 : Int32)) <<< ((0 : Int32) &&& 31)))]))
    refine Go.step (fun _ k => XS.sipush X_138.here hx rfl (hb hby d_jdk_52_method_5_code_49) k) ?_
    show Go p e below _ (T_138.setTop (mkF m 52 #[vR a1, vI 3] [(.int (255 : Int32)), (.int (hi8 c1)), (.int (((lo8 c1) &&& (255 : Int32)) <<< ((0 : Int32) &&& 31)))]))
    refine Go.step (fun _ k => XS.iand X_138.here hx rfl (hb hby d_jdk_52_method_5_code_52) rfl k) ?_
    show Go p e below _ (T_138.setTop (mkF m 53 #[vR a1, vI 3] [(.int ((hi8 c1) &&& (255 : Int32))), (.int (((lo8 c1) &&& (255 : Int32)) <<< ((0 : Int32) &&& 31)))]))
    obtain ⟨T_141, X_141, e_141, st_141⟩ := getS2 X_138 hx hZ hown (host := "") (Or.inl (wd_44 hw)) Via.refl e_138 (S_lo.ext hO.2) (g := (mkF m 53 #[vR a1, vI 3] [(.int ((hi8 c1) &&& (255 : Int32))), (.int (((lo8 c1) &&& (255 : Int32)) <<< ((0 : Int32) &&& 31)))])) rfl (hb hby d_jdk_52_method_5_code_53)
    refine Go.step st_141 ?_
    show Go p e below _ (T_141.setTop (mkF m 56 #[vR a1, vI 3] [(.int (8 : Int32)), (.int ((hi8 c1) &&& (255 : Int32))), (.int (((lo8 c1) &&& (255 : Int32)) <<< ((0 : Int32) &&& 31)))]))
    refine Go.step (fun _ k => XS.ishl X_141.here hx rfl (hb hby d_jdk_52_method_5_code_56) rfl k) ?_
    show Go p e below _ (T_141.setTop (mkF m 57 #[vR a1, vI 3] [(.int (((hi8 c1) &&& (255 : Int32)) <<< ((8 : Int32) &&& 31))), (.int (((lo8 c1) &&& (255 : Int32)) <<< ((0 : Int32) &&& 31)))]))
    refine Go.step (fun _ k => XS.ior X_141.here hx rfl (hb hby d_jdk_52_method_5_code_57) rfl k) ?_
    show Go p e below _ (T_141.setTop (mkF m 58 #[vR a1, vI 3] [(.int ((((lo8 c1) &&& (255 : Int32)) <<< ((0 : Int32) &&& 31)) ||| (((hi8 c1) &&& (255 : Int32)) <<< ((8 : Int32) &&& 31))))]))
    refine Go.step (fun _ k => XS.i2c X_141.here hx rfl (hb hby d_jdk_52_method_5_code_58) rfl k) ?_
    show Go p e below _ (T_141.setTop (mkF m 59 #[vR a1, vI 3] [(.int (nar .char ((((lo8 c1) &&& (255 : Int32)) <<< ((0 : Int32) &&& 31)) ||| (((hi8 c1) &&& (255 : Int32)) <<< ((8 : Int32) &&& 31)))))]))
    refine own_top (congrArg Value.int (show (nar .char ((((lo8 c1) &&& (255 : Int32)) <<< ((0 : Int32) &&& 31)) ||| (((hi8 c1) &&& (255 : Int32)) <<< ((8 : Int32) &&& 31)))) = c1 from u16 h_c1)) ?_
    show Go p e below _ (T_141.setTop (mkF m 59 #[vR a1, vI 3] [(.int c1)]))
    exact Go.retV X_141 hx hlk hret (congrArg Value.int (nar_u h_c1)) (Or.inl ⟨rfl, Or.inr (Or.inr (Or.inr (Or.inl rfl))), _, rfl⟩) (hb hby d_jdk_52_method_5_code_59) (by decide) (by decide) (by rw [e_141]; exact ⟨rfl, N0, rfl⟩)
  · skip
    show Go p e below _ (s₁.setTop (mkF m 0 #[vR a1, vI 2] []))
    obtain ⟨T_142, X_142, e_142, st_142⟩ := getS2 X0 hx hZ hown (host := "") (Or.inl (wd_42 hw)) Via.refl e0 (S_ad.ext hO.2) (g := (mkF m 0 #[vR a1, vI 2] [])) rfl (hb hby d_jdk_52_method_5_code_0)
    refine Go.step st_142 ?_
    show Go p e below _ (T_142.setTop (mkF m 3 #[vR a1, vI 2] [(.int (1 : Int32))]))
    refine Go.step (fun _ k => XS.ifYes X_142.here hx rfl (pc0 := 3) (pc' := 28) rfl (hb hby d_jdk_52_method_5_code_3) rfl ((if0 _ _).trans (feq ((by decide) : ¬ ((1 : Int32) = (0 : Int32)))).2) (by decide) (by decide) k) ?_
    show Go p e below _ (T_142.setTop (mkF m 28 #[vR a1, vI 2] []))
    refine Go.step (fun _ k => XS.iloadN X_142.here hx rfl (hb hby d_jdk_52_method_5_code_28) rfl  k) ?_
    refine Go.step (fun _ k => XS.iconst X_142.here hx rfl (hb hby d_jdk_52_method_5_code_29) k) ?_
    show Go p e below _ (T_142.setTop (mkF m 30 #[vR a1, vI 2] [(.int (1 : Int32)), (.int (2 : Int32))]))
    refine Go.step (fun _ k => XS.ishl X_142.here hx rfl (hb hby d_jdk_52_method_5_code_30) rfl k) ?_
    show Go p e below _ (T_142.setTop (mkF m 31 #[vR a1, vI 2] [(.int ((2 : Int32) <<< ((1 : Int32) &&& 31)))]))
    refine own_top (congrArg Value.int (show ((2 : Int32) <<< ((1 : Int32) &&& 31)) = (4 : Int32) from by decide)) ?_
    show Go p e below _ (T_142.setTop (mkF m 31 #[vR a1, vI 2] [(.int (4 : Int32))]))
    refine Go.step (fun _ k => XS.istoreN X_142.here hx rfl (hb hby d_jdk_52_method_5_code_31) rfl (l' := #[vR a1, vI 4]) rfl k) ?_
    show Go p e below _ (T_142.setTop (mkF m 32 #[vR a1, vI 4] []))
    refine Go.step (fun _ k => XS.aloadN X_142.here hx rfl (hb hby d_jdk_52_method_5_code_32) rfl rfl k) ?_
    refine Go.step (fun _ k => XS.iloadN X_142.here hx rfl (hb hby d_jdk_52_method_5_code_33) rfl  k) ?_
    show Go p e below _ (T_142.setTop (mkF m 34 #[vR a1, vI 4] [(.int (4 : Int32)), (.ref a1)]))
    refine Go.step (fun _ k => XS.iinc X_142.here hx rfl (hb hby d_jdk_52_method_5_code_34) rfl (l' := #[vR a1, vI ((4 : Int32) + (1 : Int32))]) rfl k) ?_
    show Go p e below _ (T_142.setTop (mkF m 37 #[vR a1, vI ((4 : Int32) + (1 : Int32))] [(.int (4 : Int32)), (.ref a1)]))
    rw [show ((4 : Int32) + (1 : Int32)) = (5 : Int32) from by decide]
    show Go p e below _ (T_142.setTop (mkF m 37 #[vR a1, vI 5] [(.int (4 : Int32)), (.ref a1)]))
    have cp144 := A_a1
    obtain ⟨cl_143, Ar_143, -, Sz_143, -, Hs_143, -⟩ := cp144
    have hin_143 : ¬ ((4 : Int32) < 0 ∨ cl_143.slots.size ≤ ((4 : Int32)).toNatClampNeg) := (inb_of Sz_143 ⟨by decide, by decide⟩)
    have hat_143 : cl_143.slots[((4 : Int32)).toNatClampNeg]? = some (.int (lo8 c2)) := (Hs_143.at (inb_of Sz_143 ⟨by decide, by decide⟩) rfl)
    refine Go.step (fun _ k => X_142.baloadBytes hx (j := (4 : Int32)) (v := (.int (lo8 c2))) (by rw [e_142]; exact Ar_143.1) (State.isArrayOf_alike hZ.alike Ar_143.2.1) Ar_143.2.2 hin_143 hat_143 (g := (mkF m 37 #[vR a1, vI 5] [(.int (4 : Int32)), (.ref a1)])) rfl rfl (hb hby d_jdk_52_method_5_code_37) _ k) ?_
    show Go p e below _ (T_142.setTop (mkF m 38 #[vR a1, vI 5] [(.int (lo8 c2))]))
    refine Go.step (fun _ k => XS.sipush X_142.here hx rfl (hb hby d_jdk_52_method_5_code_38) k) ?_
    show Go p e below _ (T_142.setTop (mkF m 41 #[vR a1, vI 5] [(.int (255 : Int32)), (.int (lo8 c2))]))
    refine Go.step (fun _ k => XS.iand X_142.here hx rfl (hb hby d_jdk_52_method_5_code_41) rfl k) ?_
    show Go p e below _ (T_142.setTop (mkF m 42 #[vR a1, vI 5] [(.int ((lo8 c2) &&& (255 : Int32)))]))
    obtain ⟨T_145, X_145, e_145, st_145⟩ := getS2 X_142 hx hZ hown (host := "") (Or.inl (wd_43 hw)) Via.refl e_142 (S_hi.ext hO.2) (g := (mkF m 42 #[vR a1, vI 5] [(.int ((lo8 c2) &&& (255 : Int32)))])) rfl (hb hby d_jdk_52_method_5_code_42)
    refine Go.step st_145 ?_
    show Go p e below _ (T_145.setTop (mkF m 45 #[vR a1, vI 5] [(.int (0 : Int32)), (.int ((lo8 c2) &&& (255 : Int32)))]))
    refine Go.step (fun _ k => XS.ishl X_145.here hx rfl (hb hby d_jdk_52_method_5_code_45) rfl k) ?_
    show Go p e below _ (T_145.setTop (mkF m 46 #[vR a1, vI 5] [(.int (((lo8 c2) &&& (255 : Int32)) <<< ((0 : Int32) &&& 31)))]))
    refine Go.step (fun _ k => XS.aloadN X_145.here hx rfl (hb hby d_jdk_52_method_5_code_46) rfl rfl k) ?_
    refine Go.step (fun _ k => XS.iloadN X_145.here hx rfl (hb hby d_jdk_52_method_5_code_47) rfl  k) ?_
    show Go p e below _ (T_145.setTop (mkF m 48 #[vR a1, vI 5] [(.int (5 : Int32)), (.ref a1), (.int (((lo8 c2) &&& (255 : Int32)) <<< ((0 : Int32) &&& 31)))]))
    have cp147 := A_a1
    obtain ⟨cl_146, Ar_146, -, Sz_146, -, Hs_146, -⟩ := cp147
    have hin_146 : ¬ ((5 : Int32) < 0 ∨ cl_146.slots.size ≤ ((5 : Int32)).toNatClampNeg) := (inb_of Sz_146 ⟨by decide, by decide⟩)
    have hat_146 : cl_146.slots[((5 : Int32)).toNatClampNeg]? = some (.int (hi8 c2)) := (Hs_146.at (inb_of Sz_146 ⟨by decide, by decide⟩) rfl)
    refine Go.step (fun _ k => X_145.baloadBytes hx (j := (5 : Int32)) (v := (.int (hi8 c2))) (by rw [e_145]; exact Ar_146.1) (State.isArrayOf_alike hZ.alike Ar_146.2.1) Ar_146.2.2 hin_146 hat_146 (g := (mkF m 48 #[vR a1, vI 5] [(.int (5 : Int32)), (.ref a1), (.int (((lo8 c2) &&& (255 : Int32)) <<< ((0 : Int32) &&& 31)))])) rfl rfl (hb hby d_jdk_52_method_5_code_48) _ k) ?_
    show Go p e below _ (T_145.setTop (mkF m 49 #[vR a1, vI 5] [(.int (hi8 c2)), (.int (((lo8 c2) &&& (255 : Int32)) <<< ((0 : Int32) &&& 31)))]))
    refine Go.step (fun _ k => XS.sipush X_145.here hx rfl (hb hby d_jdk_52_method_5_code_49) k) ?_
    show Go p e below _ (T_145.setTop (mkF m 52 #[vR a1, vI 5] [(.int (255 : Int32)), (.int (hi8 c2)), (.int (((lo8 c2) &&& (255 : Int32)) <<< ((0 : Int32) &&& 31)))]))
    refine Go.step (fun _ k => XS.iand X_145.here hx rfl (hb hby d_jdk_52_method_5_code_52) rfl k) ?_
    show Go p e below _ (T_145.setTop (mkF m 53 #[vR a1, vI 5] [(.int ((hi8 c2) &&& (255 : Int32))), (.int (((lo8 c2) &&& (255 : Int32)) <<< ((0 : Int32) &&& 31)))]))
    obtain ⟨T_148, X_148, e_148, st_148⟩ := getS2 X_145 hx hZ hown (host := "") (Or.inl (wd_44 hw)) Via.refl e_145 (S_lo.ext hO.2) (g := (mkF m 53 #[vR a1, vI 5] [(.int ((hi8 c2) &&& (255 : Int32))), (.int (((lo8 c2) &&& (255 : Int32)) <<< ((0 : Int32) &&& 31)))])) rfl (hb hby d_jdk_52_method_5_code_53)
    refine Go.step st_148 ?_
    show Go p e below _ (T_148.setTop (mkF m 56 #[vR a1, vI 5] [(.int (8 : Int32)), (.int ((hi8 c2) &&& (255 : Int32))), (.int (((lo8 c2) &&& (255 : Int32)) <<< ((0 : Int32) &&& 31)))]))
    refine Go.step (fun _ k => XS.ishl X_148.here hx rfl (hb hby d_jdk_52_method_5_code_56) rfl k) ?_
    show Go p e below _ (T_148.setTop (mkF m 57 #[vR a1, vI 5] [(.int (((hi8 c2) &&& (255 : Int32)) <<< ((8 : Int32) &&& 31))), (.int (((lo8 c2) &&& (255 : Int32)) <<< ((0 : Int32) &&& 31)))]))
    refine Go.step (fun _ k => XS.ior X_148.here hx rfl (hb hby d_jdk_52_method_5_code_57) rfl k) ?_
    show Go p e below _ (T_148.setTop (mkF m 58 #[vR a1, vI 5] [(.int ((((lo8 c2) &&& (255 : Int32)) <<< ((0 : Int32) &&& 31)) ||| (((hi8 c2) &&& (255 : Int32)) <<< ((8 : Int32) &&& 31))))]))
    refine Go.step (fun _ k => XS.i2c X_148.here hx rfl (hb hby d_jdk_52_method_5_code_58) rfl k) ?_
    show Go p e below _ (T_148.setTop (mkF m 59 #[vR a1, vI 5] [(.int (nar .char ((((lo8 c2) &&& (255 : Int32)) <<< ((0 : Int32) &&& 31)) ||| (((hi8 c2) &&& (255 : Int32)) <<< ((8 : Int32) &&& 31)))))]))
    refine own_top (congrArg Value.int (show (nar .char ((((lo8 c2) &&& (255 : Int32)) <<< ((0 : Int32) &&& 31)) ||| (((hi8 c2) &&& (255 : Int32)) <<< ((8 : Int32) &&& 31)))) = c2 from u16 h_c2)) ?_
    show Go p e below _ (T_148.setTop (mkF m 59 #[vR a1, vI 5] [(.int c2)]))
    exact Go.retV X_148 hx hlk hret (congrArg Value.int (nar_u h_c2)) (Or.inl ⟨rfl, Or.inr (Or.inr (Or.inr (Or.inl rfl))), _, rfl⟩) (hb hby d_jdk_52_method_5_code_59) (by decide) (by decide) (by rw [e_148]; exact ⟨rfl, N0, rfl⟩)
  · skip
    show Go p e below _ (s₁.setTop (mkF m 0 #[vR a1, vI 3] []))
    obtain ⟨T_149, X_149, e_149, st_149⟩ := getS2 X0 hx hZ hown (host := "") (Or.inl (wd_42 hw)) Via.refl e0 (S_ad.ext hO.2) (g := (mkF m 0 #[vR a1, vI 3] [])) rfl (hb hby d_jdk_52_method_5_code_0)
    refine Go.step st_149 ?_
    show Go p e below _ (T_149.setTop (mkF m 3 #[vR a1, vI 3] [(.int (1 : Int32))]))
    refine Go.step (fun _ k => XS.ifYes X_149.here hx rfl (pc0 := 3) (pc' := 28) rfl (hb hby d_jdk_52_method_5_code_3) rfl ((if0 _ _).trans (feq ((by decide) : ¬ ((1 : Int32) = (0 : Int32)))).2) (by decide) (by decide) k) ?_
    show Go p e below _ (T_149.setTop (mkF m 28 #[vR a1, vI 3] []))
    refine Go.step (fun _ k => XS.iloadN X_149.here hx rfl (hb hby d_jdk_52_method_5_code_28) rfl  k) ?_
    refine Go.step (fun _ k => XS.iconst X_149.here hx rfl (hb hby d_jdk_52_method_5_code_29) k) ?_
    show Go p e below _ (T_149.setTop (mkF m 30 #[vR a1, vI 3] [(.int (1 : Int32)), (.int (3 : Int32))]))
    refine Go.step (fun _ k => XS.ishl X_149.here hx rfl (hb hby d_jdk_52_method_5_code_30) rfl k) ?_
    show Go p e below _ (T_149.setTop (mkF m 31 #[vR a1, vI 3] [(.int ((3 : Int32) <<< ((1 : Int32) &&& 31)))]))
    refine own_top (congrArg Value.int (show ((3 : Int32) <<< ((1 : Int32) &&& 31)) = (6 : Int32) from by decide)) ?_
    show Go p e below _ (T_149.setTop (mkF m 31 #[vR a1, vI 3] [(.int (6 : Int32))]))
    refine Go.step (fun _ k => XS.istoreN X_149.here hx rfl (hb hby d_jdk_52_method_5_code_31) rfl (l' := #[vR a1, vI 6]) rfl k) ?_
    show Go p e below _ (T_149.setTop (mkF m 32 #[vR a1, vI 6] []))
    refine Go.step (fun _ k => XS.aloadN X_149.here hx rfl (hb hby d_jdk_52_method_5_code_32) rfl rfl k) ?_
    refine Go.step (fun _ k => XS.iloadN X_149.here hx rfl (hb hby d_jdk_52_method_5_code_33) rfl  k) ?_
    show Go p e below _ (T_149.setTop (mkF m 34 #[vR a1, vI 6] [(.int (6 : Int32)), (.ref a1)]))
    refine Go.step (fun _ k => XS.iinc X_149.here hx rfl (hb hby d_jdk_52_method_5_code_34) rfl (l' := #[vR a1, vI ((6 : Int32) + (1 : Int32))]) rfl k) ?_
    show Go p e below _ (T_149.setTop (mkF m 37 #[vR a1, vI ((6 : Int32) + (1 : Int32))] [(.int (6 : Int32)), (.ref a1)]))
    rw [show ((6 : Int32) + (1 : Int32)) = (7 : Int32) from by decide]
    show Go p e below _ (T_149.setTop (mkF m 37 #[vR a1, vI 7] [(.int (6 : Int32)), (.ref a1)]))
    have cp151 := A_a1
    obtain ⟨cl_150, Ar_150, -, Sz_150, -, Hs_150, -⟩ := cp151
    have hin_150 : ¬ ((6 : Int32) < 0 ∨ cl_150.slots.size ≤ ((6 : Int32)).toNatClampNeg) := (inb_of Sz_150 ⟨by decide, by decide⟩)
    have hat_150 : cl_150.slots[((6 : Int32)).toNatClampNeg]? = some (.int (lo8 c3)) := (Hs_150.at (inb_of Sz_150 ⟨by decide, by decide⟩) rfl)
    refine Go.step (fun _ k => X_149.baloadBytes hx (j := (6 : Int32)) (v := (.int (lo8 c3))) (by rw [e_149]; exact Ar_150.1) (State.isArrayOf_alike hZ.alike Ar_150.2.1) Ar_150.2.2 hin_150 hat_150 (g := (mkF m 37 #[vR a1, vI 7] [(.int (6 : Int32)), (.ref a1)])) rfl rfl (hb hby d_jdk_52_method_5_code_37) _ k) ?_
    show Go p e below _ (T_149.setTop (mkF m 38 #[vR a1, vI 7] [(.int (lo8 c3))]))
    refine Go.step (fun _ k => XS.sipush X_149.here hx rfl (hb hby d_jdk_52_method_5_code_38) k) ?_
    show Go p e below _ (T_149.setTop (mkF m 41 #[vR a1, vI 7] [(.int (255 : Int32)), (.int (lo8 c3))]))
    refine Go.step (fun _ k => XS.iand X_149.here hx rfl (hb hby d_jdk_52_method_5_code_41) rfl k) ?_
    show Go p e below _ (T_149.setTop (mkF m 42 #[vR a1, vI 7] [(.int ((lo8 c3) &&& (255 : Int32)))]))
    obtain ⟨T_152, X_152, e_152, st_152⟩ := getS2 X_149 hx hZ hown (host := "") (Or.inl (wd_43 hw)) Via.refl e_149 (S_hi.ext hO.2) (g := (mkF m 42 #[vR a1, vI 7] [(.int ((lo8 c3) &&& (255 : Int32)))])) rfl (hb hby d_jdk_52_method_5_code_42)
    refine Go.step st_152 ?_
    show Go p e below _ (T_152.setTop (mkF m 45 #[vR a1, vI 7] [(.int (0 : Int32)), (.int ((lo8 c3) &&& (255 : Int32)))]))
    refine Go.step (fun _ k => XS.ishl X_152.here hx rfl (hb hby d_jdk_52_method_5_code_45) rfl k) ?_
    show Go p e below _ (T_152.setTop (mkF m 46 #[vR a1, vI 7] [(.int (((lo8 c3) &&& (255 : Int32)) <<< ((0 : Int32) &&& 31)))]))
    refine Go.step (fun _ k => XS.aloadN X_152.here hx rfl (hb hby d_jdk_52_method_5_code_46) rfl rfl k) ?_
    refine Go.step (fun _ k => XS.iloadN X_152.here hx rfl (hb hby d_jdk_52_method_5_code_47) rfl  k) ?_
    show Go p e below _ (T_152.setTop (mkF m 48 #[vR a1, vI 7] [(.int (7 : Int32)), (.ref a1), (.int (((lo8 c3) &&& (255 : Int32)) <<< ((0 : Int32) &&& 31)))]))
    have cp154 := A_a1
    obtain ⟨cl_153, Ar_153, -, Sz_153, -, Hs_153, -⟩ := cp154
    have hin_153 : ¬ ((7 : Int32) < 0 ∨ cl_153.slots.size ≤ ((7 : Int32)).toNatClampNeg) := (inb_of Sz_153 ⟨by decide, by decide⟩)
    have hat_153 : cl_153.slots[((7 : Int32)).toNatClampNeg]? = some (.int (hi8 c3)) := (Hs_153.at (inb_of Sz_153 ⟨by decide, by decide⟩) rfl)
    refine Go.step (fun _ k => X_152.baloadBytes hx (j := (7 : Int32)) (v := (.int (hi8 c3))) (by rw [e_152]; exact Ar_153.1) (State.isArrayOf_alike hZ.alike Ar_153.2.1) Ar_153.2.2 hin_153 hat_153 (g := (mkF m 48 #[vR a1, vI 7] [(.int (7 : Int32)), (.ref a1), (.int (((lo8 c3) &&& (255 : Int32)) <<< ((0 : Int32) &&& 31)))])) rfl rfl (hb hby d_jdk_52_method_5_code_48) _ k) ?_
    show Go p e below _ (T_152.setTop (mkF m 49 #[vR a1, vI 7] [(.int (hi8 c3)), (.int (((lo8 c3) &&& (255 : Int32)) <<< ((0 : Int32) &&& 31)))]))
    refine Go.step (fun _ k => XS.sipush X_152.here hx rfl (hb hby d_jdk_52_method_5_code_49) k) ?_
    show Go p e below _ (T_152.setTop (mkF m 52 #[vR a1, vI 7] [(.int (255 : Int32)), (.int (hi8 c3)), (.int (((lo8 c3) &&& (255 : Int32)) <<< ((0 : Int32) &&& 31)))]))
    refine Go.step (fun _ k => XS.iand X_152.here hx rfl (hb hby d_jdk_52_method_5_code_52) rfl k) ?_
    show Go p e below _ (T_152.setTop (mkF m 53 #[vR a1, vI 7] [(.int ((hi8 c3) &&& (255 : Int32))), (.int (((lo8 c3) &&& (255 : Int32)) <<< ((0 : Int32) &&& 31)))]))
    obtain ⟨T_155, X_155, e_155, st_155⟩ := getS2 X_152 hx hZ hown (host := "") (Or.inl (wd_44 hw)) Via.refl e_152 (S_lo.ext hO.2) (g := (mkF m 53 #[vR a1, vI 7] [(.int ((hi8 c3) &&& (255 : Int32))), (.int (((lo8 c3) &&& (255 : Int32)) <<< ((0 : Int32) &&& 31)))])) rfl (hb hby d_jdk_52_method_5_code_53)
    refine Go.step st_155 ?_
    show Go p e below _ (T_155.setTop (mkF m 56 #[vR a1, vI 7] [(.int (8 : Int32)), (.int ((hi8 c3) &&& (255 : Int32))), (.int (((lo8 c3) &&& (255 : Int32)) <<< ((0 : Int32) &&& 31)))]))
    refine Go.step (fun _ k => XS.ishl X_155.here hx rfl (hb hby d_jdk_52_method_5_code_56) rfl k) ?_
    show Go p e below _ (T_155.setTop (mkF m 57 #[vR a1, vI 7] [(.int (((hi8 c3) &&& (255 : Int32)) <<< ((8 : Int32) &&& 31))), (.int (((lo8 c3) &&& (255 : Int32)) <<< ((0 : Int32) &&& 31)))]))
    refine Go.step (fun _ k => XS.ior X_155.here hx rfl (hb hby d_jdk_52_method_5_code_57) rfl k) ?_
    show Go p e below _ (T_155.setTop (mkF m 58 #[vR a1, vI 7] [(.int ((((lo8 c3) &&& (255 : Int32)) <<< ((0 : Int32) &&& 31)) ||| (((hi8 c3) &&& (255 : Int32)) <<< ((8 : Int32) &&& 31))))]))
    refine Go.step (fun _ k => XS.i2c X_155.here hx rfl (hb hby d_jdk_52_method_5_code_58) rfl k) ?_
    show Go p e below _ (T_155.setTop (mkF m 59 #[vR a1, vI 7] [(.int (nar .char ((((lo8 c3) &&& (255 : Int32)) <<< ((0 : Int32) &&& 31)) ||| (((hi8 c3) &&& (255 : Int32)) <<< ((8 : Int32) &&& 31)))))]))
    refine own_top (congrArg Value.int (show (nar .char ((((lo8 c3) &&& (255 : Int32)) <<< ((0 : Int32) &&& 31)) ||| (((hi8 c3) &&& (255 : Int32)) <<< ((8 : Int32) &&& 31)))) = c3 from u16 h_c3)) ?_
    show Go p e below _ (T_155.setTop (mkF m 59 #[vR a1, vI 7] [(.int c3)]))
    exact Go.retV X_155 hx hlk hret (congrArg Value.int (nar_u h_c3)) (Or.inl ⟨rfl, Or.inr (Or.inr (Or.inr (Or.inl rfl))), _, rfl⟩) (hb hby d_jdk_52_method_5_code_59) (by decide) (by decide) (by rw [e_155]; exact ⟨rfl, N0, rfl⟩)
  · skip
    show Go p e below _ (s₁.setTop (mkF m 0 #[vR a1, vI 4] []))
    obtain ⟨T_156, X_156, e_156, st_156⟩ := getS2 X0 hx hZ hown (host := "") (Or.inl (wd_42 hw)) Via.refl e0 (S_ad.ext hO.2) (g := (mkF m 0 #[vR a1, vI 4] [])) rfl (hb hby d_jdk_52_method_5_code_0)
    refine Go.step st_156 ?_
    show Go p e below _ (T_156.setTop (mkF m 3 #[vR a1, vI 4] [(.int (1 : Int32))]))
    refine Go.step (fun _ k => XS.ifYes X_156.here hx rfl (pc0 := 3) (pc' := 28) rfl (hb hby d_jdk_52_method_5_code_3) rfl ((if0 _ _).trans (feq ((by decide) : ¬ ((1 : Int32) = (0 : Int32)))).2) (by decide) (by decide) k) ?_
    show Go p e below _ (T_156.setTop (mkF m 28 #[vR a1, vI 4] []))
    refine Go.step (fun _ k => XS.iloadN X_156.here hx rfl (hb hby d_jdk_52_method_5_code_28) rfl  k) ?_
    refine Go.step (fun _ k => XS.iconst X_156.here hx rfl (hb hby d_jdk_52_method_5_code_29) k) ?_
    show Go p e below _ (T_156.setTop (mkF m 30 #[vR a1, vI 4] [(.int (1 : Int32)), (.int (4 : Int32))]))
    refine Go.step (fun _ k => XS.ishl X_156.here hx rfl (hb hby d_jdk_52_method_5_code_30) rfl k) ?_
    show Go p e below _ (T_156.setTop (mkF m 31 #[vR a1, vI 4] [(.int ((4 : Int32) <<< ((1 : Int32) &&& 31)))]))
    refine own_top (congrArg Value.int (show ((4 : Int32) <<< ((1 : Int32) &&& 31)) = (8 : Int32) from by decide)) ?_
    show Go p e below _ (T_156.setTop (mkF m 31 #[vR a1, vI 4] [(.int (8 : Int32))]))
    refine Go.step (fun _ k => XS.istoreN X_156.here hx rfl (hb hby d_jdk_52_method_5_code_31) rfl (l' := #[vR a1, vI 8]) rfl k) ?_
    show Go p e below _ (T_156.setTop (mkF m 32 #[vR a1, vI 8] []))
    refine Go.step (fun _ k => XS.aloadN X_156.here hx rfl (hb hby d_jdk_52_method_5_code_32) rfl rfl k) ?_
    refine Go.step (fun _ k => XS.iloadN X_156.here hx rfl (hb hby d_jdk_52_method_5_code_33) rfl  k) ?_
    show Go p e below _ (T_156.setTop (mkF m 34 #[vR a1, vI 8] [(.int (8 : Int32)), (.ref a1)]))
    refine Go.step (fun _ k => XS.iinc X_156.here hx rfl (hb hby d_jdk_52_method_5_code_34) rfl (l' := #[vR a1, vI ((8 : Int32) + (1 : Int32))]) rfl k) ?_
    show Go p e below _ (T_156.setTop (mkF m 37 #[vR a1, vI ((8 : Int32) + (1 : Int32))] [(.int (8 : Int32)), (.ref a1)]))
    rw [show ((8 : Int32) + (1 : Int32)) = (9 : Int32) from by decide]
    show Go p e below _ (T_156.setTop (mkF m 37 #[vR a1, vI 9] [(.int (8 : Int32)), (.ref a1)]))
    have cp158 := A_a1
    obtain ⟨cl_157, Ar_157, -, Sz_157, -, Hs_157, -⟩ := cp158
    have hin_157 : ¬ ((8 : Int32) < 0 ∨ cl_157.slots.size ≤ ((8 : Int32)).toNatClampNeg) := (inb_of Sz_157 ⟨by decide, by decide⟩)
    have hat_157 : cl_157.slots[((8 : Int32)).toNatClampNeg]? = some (.int (lo8 c4)) := (Hs_157.at (inb_of Sz_157 ⟨by decide, by decide⟩) rfl)
    refine Go.step (fun _ k => X_156.baloadBytes hx (j := (8 : Int32)) (v := (.int (lo8 c4))) (by rw [e_156]; exact Ar_157.1) (State.isArrayOf_alike hZ.alike Ar_157.2.1) Ar_157.2.2 hin_157 hat_157 (g := (mkF m 37 #[vR a1, vI 9] [(.int (8 : Int32)), (.ref a1)])) rfl rfl (hb hby d_jdk_52_method_5_code_37) _ k) ?_
    show Go p e below _ (T_156.setTop (mkF m 38 #[vR a1, vI 9] [(.int (lo8 c4))]))
    refine Go.step (fun _ k => XS.sipush X_156.here hx rfl (hb hby d_jdk_52_method_5_code_38) k) ?_
    show Go p e below _ (T_156.setTop (mkF m 41 #[vR a1, vI 9] [(.int (255 : Int32)), (.int (lo8 c4))]))
    refine Go.step (fun _ k => XS.iand X_156.here hx rfl (hb hby d_jdk_52_method_5_code_41) rfl k) ?_
    show Go p e below _ (T_156.setTop (mkF m 42 #[vR a1, vI 9] [(.int ((lo8 c4) &&& (255 : Int32)))]))
    obtain ⟨T_159, X_159, e_159, st_159⟩ := getS2 X_156 hx hZ hown (host := "") (Or.inl (wd_43 hw)) Via.refl e_156 (S_hi.ext hO.2) (g := (mkF m 42 #[vR a1, vI 9] [(.int ((lo8 c4) &&& (255 : Int32)))])) rfl (hb hby d_jdk_52_method_5_code_42)
    refine Go.step st_159 ?_
    show Go p e below _ (T_159.setTop (mkF m 45 #[vR a1, vI 9] [(.int (0 : Int32)), (.int ((lo8 c4) &&& (255 : Int32)))]))
    refine Go.step (fun _ k => XS.ishl X_159.here hx rfl (hb hby d_jdk_52_method_5_code_45) rfl k) ?_
    show Go p e below _ (T_159.setTop (mkF m 46 #[vR a1, vI 9] [(.int (((lo8 c4) &&& (255 : Int32)) <<< ((0 : Int32) &&& 31)))]))
    refine Go.step (fun _ k => XS.aloadN X_159.here hx rfl (hb hby d_jdk_52_method_5_code_46) rfl rfl k) ?_
    refine Go.step (fun _ k => XS.iloadN X_159.here hx rfl (hb hby d_jdk_52_method_5_code_47) rfl  k) ?_
    show Go p e below _ (T_159.setTop (mkF m 48 #[vR a1, vI 9] [(.int (9 : Int32)), (.ref a1), (.int (((lo8 c4) &&& (255 : Int32)) <<< ((0 : Int32) &&& 31)))]))
    have cp161 := A_a1
    obtain ⟨cl_160, Ar_160, -, Sz_160, -, Hs_160, -⟩ := cp161
    have hin_160 : ¬ ((9 : Int32) < 0 ∨ cl_160.slots.size ≤ ((9 : Int32)).toNatClampNeg) := (inb_of Sz_160 ⟨by decide, by decide⟩)
    have hat_160 : cl_160.slots[((9 : Int32)).toNatClampNeg]? = some (.int (hi8 c4)) := (Hs_160.at (inb_of Sz_160 ⟨by decide, by decide⟩) rfl)
    refine Go.step (fun _ k => X_159.baloadBytes hx (j := (9 : Int32)) (v := (.int (hi8 c4))) (by rw [e_159]; exact Ar_160.1) (State.isArrayOf_alike hZ.alike Ar_160.2.1) Ar_160.2.2 hin_160 hat_160 (g := (mkF m 48 #[vR a1, vI 9] [(.int (9 : Int32)), (.ref a1), (.int (((lo8 c4) &&& (255 : Int32)) <<< ((0 : Int32) &&& 31)))])) rfl rfl (hb hby d_jdk_52_method_5_code_48) _ k) ?_
    show Go p e below _ (T_159.setTop (mkF m 49 #[vR a1, vI 9] [(.int (hi8 c4)), (.int (((lo8 c4) &&& (255 : Int32)) <<< ((0 : Int32) &&& 31)))]))
    refine Go.step (fun _ k => XS.sipush X_159.here hx rfl (hb hby d_jdk_52_method_5_code_49) k) ?_
    show Go p e below _ (T_159.setTop (mkF m 52 #[vR a1, vI 9] [(.int (255 : Int32)), (.int (hi8 c4)), (.int (((lo8 c4) &&& (255 : Int32)) <<< ((0 : Int32) &&& 31)))]))
    refine Go.step (fun _ k => XS.iand X_159.here hx rfl (hb hby d_jdk_52_method_5_code_52) rfl k) ?_
    show Go p e below _ (T_159.setTop (mkF m 53 #[vR a1, vI 9] [(.int ((hi8 c4) &&& (255 : Int32))), (.int (((lo8 c4) &&& (255 : Int32)) <<< ((0 : Int32) &&& 31)))]))
    obtain ⟨T_162, X_162, e_162, st_162⟩ := getS2 X_159 hx hZ hown (host := "") (Or.inl (wd_44 hw)) Via.refl e_159 (S_lo.ext hO.2) (g := (mkF m 53 #[vR a1, vI 9] [(.int ((hi8 c4) &&& (255 : Int32))), (.int (((lo8 c4) &&& (255 : Int32)) <<< ((0 : Int32) &&& 31)))])) rfl (hb hby d_jdk_52_method_5_code_53)
    refine Go.step st_162 ?_
    show Go p e below _ (T_162.setTop (mkF m 56 #[vR a1, vI 9] [(.int (8 : Int32)), (.int ((hi8 c4) &&& (255 : Int32))), (.int (((lo8 c4) &&& (255 : Int32)) <<< ((0 : Int32) &&& 31)))]))
    refine Go.step (fun _ k => XS.ishl X_162.here hx rfl (hb hby d_jdk_52_method_5_code_56) rfl k) ?_
    show Go p e below _ (T_162.setTop (mkF m 57 #[vR a1, vI 9] [(.int (((hi8 c4) &&& (255 : Int32)) <<< ((8 : Int32) &&& 31))), (.int (((lo8 c4) &&& (255 : Int32)) <<< ((0 : Int32) &&& 31)))]))
    refine Go.step (fun _ k => XS.ior X_162.here hx rfl (hb hby d_jdk_52_method_5_code_57) rfl k) ?_
    show Go p e below _ (T_162.setTop (mkF m 58 #[vR a1, vI 9] [(.int ((((lo8 c4) &&& (255 : Int32)) <<< ((0 : Int32) &&& 31)) ||| (((hi8 c4) &&& (255 : Int32)) <<< ((8 : Int32) &&& 31))))]))
    refine Go.step (fun _ k => XS.i2c X_162.here hx rfl (hb hby d_jdk_52_method_5_code_58) rfl k) ?_
    show Go p e below _ (T_162.setTop (mkF m 59 #[vR a1, vI 9] [(.int (nar .char ((((lo8 c4) &&& (255 : Int32)) <<< ((0 : Int32) &&& 31)) ||| (((hi8 c4) &&& (255 : Int32)) <<< ((8 : Int32) &&& 31)))))]))
    refine own_top (congrArg Value.int (show (nar .char ((((lo8 c4) &&& (255 : Int32)) <<< ((0 : Int32) &&& 31)) ||| (((hi8 c4) &&& (255 : Int32)) <<< ((8 : Int32) &&& 31)))) = c4 from u16 h_c4)) ?_
    show Go p e below _ (T_162.setTop (mkF m 59 #[vR a1, vI 9] [(.int c4)]))
    exact Go.retV X_162 hx hlk hret (congrArg Value.int (nar_u h_c4)) (Or.inl ⟨rfl, Or.inr (Or.inr (Or.inr (Or.inl rfl))), _, rfl⟩) (hb hby d_jdk_52_method_5_code_59) (by decide) (by decide) (by rw [e_162]; exact ⟨rfl, N0, rfl⟩)
  · skip
    show Go p e below _ (s₁.setTop (mkF m 0 #[vR a1, vI 5] []))
    obtain ⟨T_163, X_163, e_163, st_163⟩ := getS2 X0 hx hZ hown (host := "") (Or.inl (wd_42 hw)) Via.refl e0 (S_ad.ext hO.2) (g := (mkF m 0 #[vR a1, vI 5] [])) rfl (hb hby d_jdk_52_method_5_code_0)
    refine Go.step st_163 ?_
    show Go p e below _ (T_163.setTop (mkF m 3 #[vR a1, vI 5] [(.int (1 : Int32))]))
    refine Go.step (fun _ k => XS.ifYes X_163.here hx rfl (pc0 := 3) (pc' := 28) rfl (hb hby d_jdk_52_method_5_code_3) rfl ((if0 _ _).trans (feq ((by decide) : ¬ ((1 : Int32) = (0 : Int32)))).2) (by decide) (by decide) k) ?_
    show Go p e below _ (T_163.setTop (mkF m 28 #[vR a1, vI 5] []))
    refine Go.step (fun _ k => XS.iloadN X_163.here hx rfl (hb hby d_jdk_52_method_5_code_28) rfl  k) ?_
    refine Go.step (fun _ k => XS.iconst X_163.here hx rfl (hb hby d_jdk_52_method_5_code_29) k) ?_
    show Go p e below _ (T_163.setTop (mkF m 30 #[vR a1, vI 5] [(.int (1 : Int32)), (.int (5 : Int32))]))
    refine Go.step (fun _ k => XS.ishl X_163.here hx rfl (hb hby d_jdk_52_method_5_code_30) rfl k) ?_
    show Go p e below _ (T_163.setTop (mkF m 31 #[vR a1, vI 5] [(.int ((5 : Int32) <<< ((1 : Int32) &&& 31)))]))
    refine own_top (congrArg Value.int (show ((5 : Int32) <<< ((1 : Int32) &&& 31)) = (10 : Int32) from by decide)) ?_
    show Go p e below _ (T_163.setTop (mkF m 31 #[vR a1, vI 5] [(.int (10 : Int32))]))
    refine Go.step (fun _ k => XS.istoreN X_163.here hx rfl (hb hby d_jdk_52_method_5_code_31) rfl (l' := #[vR a1, vI 10]) rfl k) ?_
    show Go p e below _ (T_163.setTop (mkF m 32 #[vR a1, vI 10] []))
    refine Go.step (fun _ k => XS.aloadN X_163.here hx rfl (hb hby d_jdk_52_method_5_code_32) rfl rfl k) ?_
    refine Go.step (fun _ k => XS.iloadN X_163.here hx rfl (hb hby d_jdk_52_method_5_code_33) rfl  k) ?_
    show Go p e below _ (T_163.setTop (mkF m 34 #[vR a1, vI 10] [(.int (10 : Int32)), (.ref a1)]))
    refine Go.step (fun _ k => XS.iinc X_163.here hx rfl (hb hby d_jdk_52_method_5_code_34) rfl (l' := #[vR a1, vI ((10 : Int32) + (1 : Int32))]) rfl k) ?_
    show Go p e below _ (T_163.setTop (mkF m 37 #[vR a1, vI ((10 : Int32) + (1 : Int32))] [(.int (10 : Int32)), (.ref a1)]))
    rw [show ((10 : Int32) + (1 : Int32)) = (11 : Int32) from by decide]
    show Go p e below _ (T_163.setTop (mkF m 37 #[vR a1, vI 11] [(.int (10 : Int32)), (.ref a1)]))
    have cp165 := A_a1
    obtain ⟨cl_164, Ar_164, -, Sz_164, -, Hs_164, -⟩ := cp165
    have hin_164 : ¬ ((10 : Int32) < 0 ∨ cl_164.slots.size ≤ ((10 : Int32)).toNatClampNeg) := (inb_of Sz_164 ⟨by decide, by decide⟩)
    have hat_164 : cl_164.slots[((10 : Int32)).toNatClampNeg]? = some (.int (lo8 c5)) := (Hs_164.at (inb_of Sz_164 ⟨by decide, by decide⟩) rfl)
    refine Go.step (fun _ k => X_163.baloadBytes hx (j := (10 : Int32)) (v := (.int (lo8 c5))) (by rw [e_163]; exact Ar_164.1) (State.isArrayOf_alike hZ.alike Ar_164.2.1) Ar_164.2.2 hin_164 hat_164 (g := (mkF m 37 #[vR a1, vI 11] [(.int (10 : Int32)), (.ref a1)])) rfl rfl (hb hby d_jdk_52_method_5_code_37) _ k) ?_
    show Go p e below _ (T_163.setTop (mkF m 38 #[vR a1, vI 11] [(.int (lo8 c5))]))
    refine Go.step (fun _ k => XS.sipush X_163.here hx rfl (hb hby d_jdk_52_method_5_code_38) k) ?_
    show Go p e below _ (T_163.setTop (mkF m 41 #[vR a1, vI 11] [(.int (255 : Int32)), (.int (lo8 c5))]))
    refine Go.step (fun _ k => XS.iand X_163.here hx rfl (hb hby d_jdk_52_method_5_code_41) rfl k) ?_
    show Go p e below _ (T_163.setTop (mkF m 42 #[vR a1, vI 11] [(.int ((lo8 c5) &&& (255 : Int32)))]))
    obtain ⟨T_166, X_166, e_166, st_166⟩ := getS2 X_163 hx hZ hown (host := "") (Or.inl (wd_43 hw)) Via.refl e_163 (S_hi.ext hO.2) (g := (mkF m 42 #[vR a1, vI 11] [(.int ((lo8 c5) &&& (255 : Int32)))])) rfl (hb hby d_jdk_52_method_5_code_42)
    refine Go.step st_166 ?_
    show Go p e below _ (T_166.setTop (mkF m 45 #[vR a1, vI 11] [(.int (0 : Int32)), (.int ((lo8 c5) &&& (255 : Int32)))]))
    refine Go.step (fun _ k => XS.ishl X_166.here hx rfl (hb hby d_jdk_52_method_5_code_45) rfl k) ?_
    show Go p e below _ (T_166.setTop (mkF m 46 #[vR a1, vI 11] [(.int (((lo8 c5) &&& (255 : Int32)) <<< ((0 : Int32) &&& 31)))]))
    refine Go.step (fun _ k => XS.aloadN X_166.here hx rfl (hb hby d_jdk_52_method_5_code_46) rfl rfl k) ?_
    refine Go.step (fun _ k => XS.iloadN X_166.here hx rfl (hb hby d_jdk_52_method_5_code_47) rfl  k) ?_
    show Go p e below _ (T_166.setTop (mkF m 48 #[vR a1, vI 11] [(.int (11 : Int32)), (.ref a1), (.int (((lo8 c5) &&& (255 : Int32)) <<< ((0 : Int32) &&& 31)))]))
    have cp168 := A_a1
    obtain ⟨cl_167, Ar_167, -, Sz_167, -, Hs_167, -⟩ := cp168
    have hin_167 : ¬ ((11 : Int32) < 0 ∨ cl_167.slots.size ≤ ((11 : Int32)).toNatClampNeg) := (inb_of Sz_167 ⟨by decide, by decide⟩)
    have hat_167 : cl_167.slots[((11 : Int32)).toNatClampNeg]? = some (.int (hi8 c5)) := (Hs_167.at (inb_of Sz_167 ⟨by decide, by decide⟩) rfl)
    refine Go.step (fun _ k => X_166.baloadBytes hx (j := (11 : Int32)) (v := (.int (hi8 c5))) (by rw [e_166]; exact Ar_167.1) (State.isArrayOf_alike hZ.alike Ar_167.2.1) Ar_167.2.2 hin_167 hat_167 (g := (mkF m 48 #[vR a1, vI 11] [(.int (11 : Int32)), (.ref a1), (.int (((lo8 c5) &&& (255 : Int32)) <<< ((0 : Int32) &&& 31)))])) rfl rfl (hb hby d_jdk_52_method_5_code_48) _ k) ?_
    show Go p e below _ (T_166.setTop (mkF m 49 #[vR a1, vI 11] [(.int (hi8 c5)), (.int (((lo8 c5) &&& (255 : Int32)) <<< ((0 : Int32) &&& 31)))]))
    refine Go.step (fun _ k => XS.sipush X_166.here hx rfl (hb hby d_jdk_52_method_5_code_49) k) ?_
    show Go p e below _ (T_166.setTop (mkF m 52 #[vR a1, vI 11] [(.int (255 : Int32)), (.int (hi8 c5)), (.int (((lo8 c5) &&& (255 : Int32)) <<< ((0 : Int32) &&& 31)))]))
    refine Go.step (fun _ k => XS.iand X_166.here hx rfl (hb hby d_jdk_52_method_5_code_52) rfl k) ?_
    show Go p e below _ (T_166.setTop (mkF m 53 #[vR a1, vI 11] [(.int ((hi8 c5) &&& (255 : Int32))), (.int (((lo8 c5) &&& (255 : Int32)) <<< ((0 : Int32) &&& 31)))]))
    obtain ⟨T_169, X_169, e_169, st_169⟩ := getS2 X_166 hx hZ hown (host := "") (Or.inl (wd_44 hw)) Via.refl e_166 (S_lo.ext hO.2) (g := (mkF m 53 #[vR a1, vI 11] [(.int ((hi8 c5) &&& (255 : Int32))), (.int (((lo8 c5) &&& (255 : Int32)) <<< ((0 : Int32) &&& 31)))])) rfl (hb hby d_jdk_52_method_5_code_53)
    refine Go.step st_169 ?_
    show Go p e below _ (T_169.setTop (mkF m 56 #[vR a1, vI 11] [(.int (8 : Int32)), (.int ((hi8 c5) &&& (255 : Int32))), (.int (((lo8 c5) &&& (255 : Int32)) <<< ((0 : Int32) &&& 31)))]))
    refine Go.step (fun _ k => XS.ishl X_169.here hx rfl (hb hby d_jdk_52_method_5_code_56) rfl k) ?_
    show Go p e below _ (T_169.setTop (mkF m 57 #[vR a1, vI 11] [(.int (((hi8 c5) &&& (255 : Int32)) <<< ((8 : Int32) &&& 31))), (.int (((lo8 c5) &&& (255 : Int32)) <<< ((0 : Int32) &&& 31)))]))
    refine Go.step (fun _ k => XS.ior X_169.here hx rfl (hb hby d_jdk_52_method_5_code_57) rfl k) ?_
    show Go p e below _ (T_169.setTop (mkF m 58 #[vR a1, vI 11] [(.int ((((lo8 c5) &&& (255 : Int32)) <<< ((0 : Int32) &&& 31)) ||| (((hi8 c5) &&& (255 : Int32)) <<< ((8 : Int32) &&& 31))))]))
    refine Go.step (fun _ k => XS.i2c X_169.here hx rfl (hb hby d_jdk_52_method_5_code_58) rfl k) ?_
    show Go p e below _ (T_169.setTop (mkF m 59 #[vR a1, vI 11] [(.int (nar .char ((((lo8 c5) &&& (255 : Int32)) <<< ((0 : Int32) &&& 31)) ||| (((hi8 c5) &&& (255 : Int32)) <<< ((8 : Int32) &&& 31)))))]))
    refine own_top (congrArg Value.int (show (nar .char ((((lo8 c5) &&& (255 : Int32)) <<< ((0 : Int32) &&& 31)) ||| (((hi8 c5) &&& (255 : Int32)) <<< ((8 : Int32) &&& 31)))) = c5 from u16 h_c5)) ?_
    show Go p e below _ (T_169.setTop (mkF m 59 #[vR a1, vI 11] [(.int c5)]))
    exact Go.retV X_169 hx hlk hret (congrArg Value.int (nar_u h_c5)) (Or.inl ⟨rfl, Or.inr (Or.inr (Or.inr (Or.inl rfl))), _, rfl⟩) (hb hby d_jdk_52_method_5_code_59) (by decide) (by decide) (by rw [e_169]; exact ⟨rfl, N0, rfl⟩)
--@E
--@C c3L
def Q_c3L (Z : State) (zc : Int32) (vfm : Value) (a1 : Addr) (k1 : ClassId) (c0 : Int32) (c1 : Int32) (c2 : Int32) (c3 : Int32) (c4 : Int32) (c5 : Int32) (h0 : Heap) (n0 : Nat) (v : Option Value) (h : Heap) (L : List Loc) : Prop := ∃ (r : Addr) (kr : ClassId), v = some (.ref r) ∧ Fr n0 L ∧ Keep h0 h [] ∧ h0.size ≤ r ∧ Arv Z h r kr .byte (6 : Int32) [(.int c0.toInt8.toInt32), (.int c1.toInt8.toInt32), (.int c2.toInt8.toInt32), (.int c3.toInt8.toInt32), (.int c4.toInt8.toInt32), (.int c5.toInt8.toInt32)] (.int (0 : Int32))
set_option maxRecDepth 65536 in
set_option maxHeartbeats 40000000 in
theorem rm_c3L (l : Launch) (Z : State) (a0 : Array Value) (hw : ∀ d ∈ tables_1, d.before a0 Z = true) (zc : Int32) (vfm : Value) (a1 : Addr) (k1 : ClassId) (c0 : Int32) (c1 : Int32) (c2 : Int32) (c3 : Int32) (c4 : Int32) (c5 : Int32) (h0 : Heap) (n0 : Nat) (Z0 : n0 ≤ h0.size) (A_a1 : Arv Z h0 a1 k1 .char (6 : Int32) [(.int c0), (.int c1), (.int c2), (.int c3), (.int c4), (.int c5)] (.int (0 : Int32))) (l_c0 : (¬ (255 : Int32) < c0)) (l_c1 : (¬ (255 : Int32) < c1)) (l_c2 : (¬ (255 : Int32) < c2)) (l_c3 : (¬ (255 : Int32) < c3)) (l_c4 : (¬ (255 : Int32) < c4)) (l_c5 : (¬ (255 : Int32) < c5)) (hSt : St Z zc vfm) (hO : Old Z n0 h0) :
    CN l Z ({ cls := "java/lang/StringUTF16", name := "compress", desc := "([CII)[B" } : Jvm.MethodName) [(Jvm.Cond.code ({ cls := "java/lang/StringUTF16", name := "compress", desc := "([CII)[B" } : Jvm.MethodName) jdk_52_method_16_code (6 : Nat) (Option.some (Jvm.ClassFile.FieldType.array Jvm.ClassFile.FieldType.byte)))] ({ frames := 1, cells := 1, slots := 6, locals := 18 } : Room) #[(.ref a1), (.int (0 : Int32)), (.int (6 : Int32))] h0 (Q_c3L Z zc vfm a1 k1 c0 c1 c2 c3 c4 c5 h0 n0) := by
  refine CN.of (L0 := #[vR a1, vI 0, vI 6, vU, vU, vU]) (plainFor_of_name pn_1) (fun m => by first | (simp [entryFrame, mkF, argsToLocals, Value.category]; done) | rfl) ?_
  intro p e s m below meth c s₁ hx hby hml hret hlk hZ hown hnm X0 e0
  have N0 := Fr.nil n0
  have KP0 := Keep.refl h0 []
  have hSt_ := hSt
  obtain ⟨S_cs, n_cs, S_fm, r_fm, S_ad, S_hi, S_lo⟩ := hSt_
  show Go p e below _ (s₁.setTop (mkF m 0 #[vR a1, vI 0, vI 6, vU, vU, vU] []))
  refine Go.step (fun _ k => XS.iloadN X0.here hx rfl (hb hby d_jdk_52_method_16_code_0) rfl  k) ?_
  show Go p e below _ (s₁.setTop (mkF m 1 #[vR a1, vI 0, vI 6, vU, vU, vU] [(.int (6 : Int32))]))
  obtain ⟨T_170, h_170, k_170, X_170, e_170, E_170, A_170, st_170⟩ := newP X0 hx hZ (aty := .byte) (wd_25 hw) e0 (g := (mkF m 1 #[vR a1, vI 0, vI 6, vU, vU, vU] [(.int (6 : Int32))])) rfl (hb hby d_jdk_52_method_16_code_1) rfl (by decide) (cap := 6) (by decide) (by decide) (by decide) (by decide)
  obtain ⟨b170, q_170⟩ : ∃ z, z = h0.size := ⟨_, rfl⟩
  rw [← q_170] at A_170 st_170
  refine Go.step st_170 ?_
  have le_170 : h0.size ≤ h_170.size := E_170.1
  have KP_170 := KP0.ext E_170
  have O_170 := hO.ext E_170
  have ge_170 : h0.size ≤ b170 := Nat.le_of_eq q_170.symm
  have sz_b170 : h0.size ≤ b170 := Nat.le_trans (Nat.le_refl _) ge_170
  have g_b170 : n0 ≤ b170 := Nat.le_trans Z0 sz_b170
  have V_170 : Arv Z h_170 b170 k_170 .byte (6 : Int32) [(.int (0 : Int32)), (.int (0 : Int32)), (.int (0 : Int32)), (.int (0 : Int32)), (.int (0 : Int32)), (.int (0 : Int32))] (.int (0 : Int32)) := (Arv.new A_170 (by decide)).pad (pad_rep [] (.int (0 : Int32)) 6)
  show Go p e below _ (T_170.setTop (mkF m 3 #[vR a1, vI 0, vI 6, vU, vU, vU] [(.ref b170)]))
  refine Go.step (fun _ k => XS.astoreN X_170.here hx rfl (hb hby d_jdk_52_method_16_code_3) rfl rfl (l' := #[vR a1, vI 0, vI 6, vR b170, vU, vU]) rfl k) ?_
  show Go p e below _ (T_170.setTop (mkF m 4 #[vR a1, vI 0, vI 6, vR b170, vU, vU] []))
  refine Go.step (fun _ k => XS.aloadN X_170.here hx rfl (hb hby d_jdk_52_method_16_code_4) rfl rfl k) ?_
  refine Go.step (fun _ k => XS.iloadN X_170.here hx rfl (hb hby d_jdk_52_method_16_code_5) rfl  k) ?_
  refine Go.step (fun _ k => XS.aloadN X_170.here hx rfl (hb hby d_jdk_52_method_16_code_6) rfl rfl k) ?_
  refine Go.step (fun _ k => XS.iconst X_170.here hx rfl (hb hby d_jdk_52_method_16_code_7) k) ?_
  refine Go.step (fun _ k => XS.iloadN X_170.here hx rfl (hb hby d_jdk_52_method_16_code_8) rfl  k) ?_
  show Go p e below _ (T_170.setTop (mkF m 9 #[vR a1, vI 0, vI 6, vR b170, vU, vU] [(.int (6 : Int32)), (.int (0 : Int32)), (.ref b170), (.int (0 : Int32)), (.ref a1)]))
  have f171 : Arv Z h_170 a1 k1 .char (6 : Int32) [(.int c0), (.int c1), (.int c2), (.int c3), (.int c4), (.int c5)] (.int (0 : Int32)) := (A_a1.ext E_170)
  obtain ⟨v_172, T_172, L_172, X_172, hQ_172, st_172⟩ := goS X_170 hx hZ (y := Y_3) hown (wd_26 hw) (wd_27 hw) (wd_23 hw) (wd_28 hw) (by decide) (backOf (W := 0) (rm_c5L l Z a0 hw zc vfm (a1) (k1) (b170) (k_170) (c0) (c1) (c2) (c3) (c4) (c5) h_170 n0 (Nat.le_trans Z0 KP_170.1) f171 V_170 g_b170 (Nat.ne_of_lt (Nat.lt_of_lt_of_le A_a1.lt (Nat.le_trans (Nat.le_refl _) ge_170))) l_c0 l_c1 l_c2 l_c3 l_c4 l_c5 hSt O_170) hZ (wd_28 hw) (wd_23 hw) (by decide) (by decide)) e_170 (g := (mkF m 9 #[vR a1, vI 0, vI 6, vR b170, vU, vU] [(.int (6 : Int32)), (.int (0 : Int32)), (.ref b170), (.int (0 : Int32)), (.ref a1)])) rfl (by rw [hml]; rfl) (argsL := [(.ref a1), (.int (0 : Int32)), (.ref b170), (.int (0 : Int32)), (.int (6 : Int32))]) (rest := []) rfl (lenOf pd_3 rfl) rfl (by show 2 * 0 + _ ≤ _; exact Nat.le_of_eq rfl) (hb hby d_jdk_52_method_16_code_9) (by decide) (by decide)
  obtain ⟨rfl, Nq_172, K_172, u0_172⟩ := hQ_172
  have N_172 := Fr.app N0 Nq_172
  have le_172 : h_170.size ≤ T_172.heap.size := K_172.1
  have KP_172 := KP_170.trans K_172 (allS (Or.inr sz_b170) all0)
  have O_172 := O_170.keep K_172 (allS g_b170 all0)
  refine Go.step st_172 ?_
  show Go p e below _ (T_172.setTop (mkF m 12 #[vR a1, vI 0, vI 6, vR b170, vU, vU] [(.int (6 : Int32))]))
  refine Go.step (fun _ k => XS.istore X_172.here hx rfl (hb hby d_jdk_52_method_16_code_12) rfl (l' := #[vR a1, vI 0, vI 6, vR b170, vI 6, vU]) rfl k) ?_
  show Go p e below _ (T_172.setTop (mkF m 14 #[vR a1, vI 0, vI 6, vR b170, vI 6, vU] []))
  refine Go.step (fun _ k => XS.iload X_172.here hx rfl (hb hby d_jdk_52_method_16_code_14) rfl  k) ?_
  refine Go.step (fun _ k => XS.iloadN X_172.here hx rfl (hb hby d_jdk_52_method_16_code_16) rfl  k) ?_
  show Go p e below _ (T_172.setTop (mkF m 17 #[vR a1, vI 0, vI 6, vR b170, vI 6, vU] [(.int (6 : Int32)), (.int (6 : Int32))]))
  refine Go.step (fun _ k => XS.icmpYes X_172.here hx rfl (pc0 := 17) (pc' := 57) rfl (hb hby d_jdk_52_method_16_code_17) rfl (teq ((by decide) : (6 : Int32) = (6 : Int32))).1 (by decide) (by decide) k) ?_
  show Go p e below _ (T_172.setTop (mkF m 57 #[vR a1, vI 0, vI 6, vR b170, vI 6, vU] []))
  refine Go.step (fun _ k => XS.aloadN X_172.here hx rfl (hb hby d_jdk_52_method_16_code_57) rfl rfl k) ?_
  show Go p e below _ (T_172.setTop (mkF m 58 #[vR a1, vI 0, vI 6, vR b170, vI 6, vU] [(.ref b170)]))
  exact Go.retV X_172 hx hlk hret rfl (Or.inr (Or.inr (Or.inr (Or.inr ⟨rfl, rfl, rfl⟩)))) (hb hby d_jdk_52_method_16_code_58) (by decide) (by decide) (by exact ⟨b170, k_170, rfl, N_172, KP_172, sz_b170, u0_172⟩)
--@E
--@C c3U
def Q_c3U (Z : State) (zc : Int32) (vfm : Value) (a1 : Addr) (k1 : ClassId) (c0 : Int32) (c1 : Int32) (c2 : Int32) (c3 : Int32) (c4 : Int32) (c5 : Int32) (h0 : Heap) (n0 : Nat) (v : Option Value) (h : Heap) (L : List Loc) : Prop := ∃ (r : Addr) (kr : ClassId), v = some (.ref r) ∧ Fr n0 L ∧ Keep h0 h [] ∧ h0.size ≤ r ∧ Arv Z h r kr .byte (12 : Int32) [(.int (lo8 c0)), (.int (hi8 c0)), (.int (lo8 c1)), (.int (hi8 c1)), (.int (lo8 c2)), (.int (hi8 c2)), (.int (lo8 c3)), (.int (hi8 c3)), (.int (lo8 c4)), (.int (hi8 c4)), (.int (lo8 c5)), (.int (hi8 c5))] (.int (0 : Int32))
set_option maxRecDepth 65536 in
set_option maxHeartbeats 40000000 in
theorem rm_c3U (l : Launch) (Z : State) (a0 : Array Value) (hw : ∀ d ∈ tables_1, d.before a0 Z = true) (zc : Int32) (vfm : Value) (a1 : Addr) (k1 : ClassId) (c0 : Int32) (c1 : Int32) (c2 : Int32) (c3 : Int32) (c4 : Int32) (c5 : Int32) (h0 : Heap) (n0 : Nat) (Z0 : n0 ≤ h0.size) (A_a1 : Arv Z h0 a1 k1 .char (6 : Int32) [(.int c0), (.int c1), (.int c2), (.int c3), (.int c4), (.int c5)] (.int (0 : Int32))) (hU : (¬ (¬ (255 : Int32) < c0 ∧ ¬ (255 : Int32) < c1 ∧ ¬ (255 : Int32) < c2 ∧ ¬ (255 : Int32) < c3 ∧ ¬ (255 : Int32) < c4 ∧ ¬ (255 : Int32) < c5))) (h_c0 : (0 ≤ c0.toInt ∧ c0.toInt ≤ 65535)) (h_c1 : (0 ≤ c1.toInt ∧ c1.toInt ≤ 65535)) (h_c2 : (0 ≤ c2.toInt ∧ c2.toInt ≤ 65535)) (h_c3 : (0 ≤ c3.toInt ∧ c3.toInt ≤ 65535)) (h_c4 : (0 ≤ c4.toInt ∧ c4.toInt ≤ 65535)) (h_c5 : (0 ≤ c5.toInt ∧ c5.toInt ≤ 65535)) (hSt : St Z zc vfm) (hO : Old Z n0 h0) :
    CN l Z ({ cls := "java/lang/StringUTF16", name := "compress", desc := "([CII)[B" } : Jvm.MethodName) [(Jvm.Cond.code ({ cls := "java/lang/StringUTF16", name := "compress", desc := "([CII)[B" } : Jvm.MethodName) jdk_52_method_16_code (6 : Nat) (Option.some (Jvm.ClassFile.FieldType.array Jvm.ClassFile.FieldType.byte)))] ({ frames := 3, cells := 2, slots := 18, locals := 40 } : Room) #[(.ref a1), (.int (0 : Int32)), (.int (6 : Int32))] h0 (Q_c3U Z zc vfm a1 k1 c0 c1 c2 c3 c4 c5 h0 n0) := by
  refine CN.of (L0 := #[vR a1, vI 0, vI 6, vU, vU, vU]) (plainFor_of_name pn_1) (fun m => by first | (simp [entryFrame, mkF, argsToLocals, Value.category]; done) | rfl) ?_
  intro p e s m below meth c s₁ hx hby hml hret hlk hZ hown hnm X0 e0
  have N0 := Fr.nil n0
  have KP0 := Keep.refl h0 []
  have hSt_ := hSt
  obtain ⟨S_cs, n_cs, S_fm, r_fm, S_ad, S_hi, S_lo⟩ := hSt_
  show Go p e below _ (s₁.setTop (mkF m 0 #[vR a1, vI 0, vI 6, vU, vU, vU] []))
  refine Go.step (fun _ k => XS.iloadN X0.here hx rfl (hb hby d_jdk_52_method_16_code_0) rfl  k) ?_
  show Go p e below _ (s₁.setTop (mkF m 1 #[vR a1, vI 0, vI 6, vU, vU, vU] [(.int (6 : Int32))]))
  obtain ⟨T_173, h_173, k_173, X_173, e_173, E_173, A_173, st_173⟩ := newP X0 hx hZ (aty := .byte) (wd_25 hw) e0 (g := (mkF m 1 #[vR a1, vI 0, vI 6, vU, vU, vU] [(.int (6 : Int32))])) rfl (hb hby d_jdk_52_method_16_code_1) rfl (by decide) (cap := 6) (by decide) (by decide) (by decide) (by decide)
  obtain ⟨b173, q_173⟩ : ∃ z, z = h0.size := ⟨_, rfl⟩
  rw [← q_173] at A_173 st_173
  refine Go.step st_173 ?_
  have le_173 : h0.size ≤ h_173.size := E_173.1
  have KP_173 := KP0.ext E_173
  have O_173 := hO.ext E_173
  have ge_173 : h0.size ≤ b173 := Nat.le_of_eq q_173.symm
  have sz_b173 : h0.size ≤ b173 := Nat.le_trans (Nat.le_refl _) ge_173
  have g_b173 : n0 ≤ b173 := Nat.le_trans Z0 sz_b173
  have V_173 : Arv Z h_173 b173 k_173 .byte (6 : Int32) [(.int (0 : Int32)), (.int (0 : Int32)), (.int (0 : Int32)), (.int (0 : Int32)), (.int (0 : Int32)), (.int (0 : Int32))] (.int (0 : Int32)) := (Arv.new A_173 (by decide)).pad (pad_rep [] (.int (0 : Int32)) 6)
  show Go p e below _ (T_173.setTop (mkF m 3 #[vR a1, vI 0, vI 6, vU, vU, vU] [(.ref b173)]))
  refine Go.step (fun _ k => XS.astoreN X_173.here hx rfl (hb hby d_jdk_52_method_16_code_3) rfl rfl (l' := #[vR a1, vI 0, vI 6, vR b173, vU, vU]) rfl k) ?_
  show Go p e below _ (T_173.setTop (mkF m 4 #[vR a1, vI 0, vI 6, vR b173, vU, vU] []))
  refine Go.step (fun _ k => XS.aloadN X_173.here hx rfl (hb hby d_jdk_52_method_16_code_4) rfl rfl k) ?_
  refine Go.step (fun _ k => XS.iloadN X_173.here hx rfl (hb hby d_jdk_52_method_16_code_5) rfl  k) ?_
  refine Go.step (fun _ k => XS.aloadN X_173.here hx rfl (hb hby d_jdk_52_method_16_code_6) rfl rfl k) ?_
  refine Go.step (fun _ k => XS.iconst X_173.here hx rfl (hb hby d_jdk_52_method_16_code_7) k) ?_
  refine Go.step (fun _ k => XS.iloadN X_173.here hx rfl (hb hby d_jdk_52_method_16_code_8) rfl  k) ?_
  show Go p e below _ (T_173.setTop (mkF m 9 #[vR a1, vI 0, vI 6, vR b173, vU, vU] [(.int (6 : Int32)), (.int (0 : Int32)), (.ref b173), (.int (0 : Int32)), (.ref a1)]))
  have f174 : Arv Z h_173 a1 k1 .char (6 : Int32) [(.int c0), (.int c1), (.int c2), (.int c3), (.int c4), (.int c5)] (.int (0 : Int32)) := (A_a1.ext E_173)
  obtain ⟨v_175, T_175, L_175, X_175, hQ_175, st_175⟩ := goS X_173 hx hZ (y := Y_3) hown (wd_26 hw) (wd_27 hw) (wd_23 hw) (wd_28 hw) (by decide) (backOf (W := 0) (rm_c5U l Z a0 hw zc vfm (a1) (k1) (b173) (k_173) (c0) (c1) (c2) (c3) (c4) (c5) h_173 n0 (Nat.le_trans Z0 KP_173.1) f174 V_173 g_b173 (Nat.ne_of_lt (Nat.lt_of_lt_of_le A_a1.lt (Nat.le_trans (Nat.le_refl _) ge_173))) hU hSt O_173) hZ (wd_28 hw) (wd_23 hw) (by decide) (by decide)) e_173 (g := (mkF m 9 #[vR a1, vI 0, vI 6, vR b173, vU, vU] [(.int (6 : Int32)), (.int (0 : Int32)), (.ref b173), (.int (0 : Int32)), (.ref a1)])) rfl (by rw [hml]; rfl) (argsL := [(.ref a1), (.int (0 : Int32)), (.ref b173), (.int (0 : Int32)), (.int (6 : Int32))]) (rest := []) rfl (lenOf pd_3 rfl) rfl (by show 2 * 0 + _ ≤ _; exact Nat.le_of_eq rfl) (hb hby d_jdk_52_method_16_code_9) (by decide) (by decide)
  obtain ⟨v1_175, rfl, Nq_175, K_175, u0_175⟩ := hQ_175
  have N_175 := Fr.app N0 Nq_175
  have le_175 : h_173.size ≤ T_175.heap.size := K_175.1
  have KP_175 := KP_173.trans K_175 (allS (Or.inr sz_b173) all0)
  have O_175 := O_173.keep K_175 (allS g_b173 all0)
  have hv_175 := u0_175
  refine Go.step st_175 ?_
  show Go p e below _ (T_175.setTop (mkF m 12 #[vR a1, vI 0, vI 6, vR b173, vU, vU] [(.int v1_175)]))
  have hv := hv_175
  show Go p e below _ (T_175.setTop (mkF m 12 #[vR a1, vI 0, vI 6, vR b173, vU, vU] [(.int v1_175)]))
  refine Go.step (fun _ k => XS.istore X_175.here hx rfl (hb hby d_jdk_52_method_16_code_12) rfl (l' := #[vR a1, vI 0, vI 6, vR b173, vI v1_175, vU]) rfl k) ?_
  show Go p e below _ (T_175.setTop (mkF m 14 #[vR a1, vI 0, vI 6, vR b173, vI v1_175, vU] []))
  refine Go.step (fun _ k => XS.iload X_175.here hx rfl (hb hby d_jdk_52_method_16_code_14) rfl  k) ?_
  refine Go.step (fun _ k => XS.iloadN X_175.here hx rfl (hb hby d_jdk_52_method_16_code_16) rfl  k) ?_
  show Go p e below _ (T_175.setTop (mkF m 17 #[vR a1, vI 0, vI 6, vR b173, vI v1_175, vU] [(.int (6 : Int32)), (.int v1_175)]))
  refine Go.step (fun _ k => XS.icmpNo X_175.here hx rfl (hb hby d_jdk_52_method_16_code_17) rfl (feq ((fun q => absurd (i6 hv.1).2 (by rw [q]; decide)) : ¬ (v1_175 = (6 : Int32)))).1 k) ?_
  show Go p e below _ (T_175.setTop (mkF m 20 #[vR a1, vI 0, vI 6, vR b173, vI v1_175, vU] []))
  refine Go.step (fun _ k => XS.aloadN X_175.here hx rfl (hb hby d_jdk_52_method_16_code_20) rfl rfl k) ?_
  refine Go.step (fun _ k => XS.iloadN X_175.here hx rfl (hb hby d_jdk_52_method_16_code_21) rfl  k) ?_
  refine Go.step (fun _ k => XS.iloadN X_175.here hx rfl (hb hby d_jdk_52_method_16_code_22) rfl  k) ?_
  show Go p e below _ (T_175.setTop (mkF m 23 #[vR a1, vI 0, vI 6, vR b173, vI v1_175, vU] [(.int (6 : Int32)), (.int (0 : Int32)), (.ref a1)]))
  have f176 : Arv Z T_175.heap a1 k1 .char (6 : Int32) [(.int c0), (.int c1), (.int c2), (.int c3), (.int c4), (.int c5)] (.int (0 : Int32)) := (f174.keep K_175 (ninS (Nat.ne_of_lt (Nat.lt_of_lt_of_le A_a1.lt (Nat.le_trans (Nat.le_refl _) ge_173))) nin0))
  obtain ⟨v_177, T_177, L_177, X_177, hQ_177, st_177⟩ := goS X_175 hx hZ (y := Y_4) hown (wd_29 hw) (wd_30 hw) (wd_23 hw) (wd_31 hw) (by decide) (backOf (W := 0) (rm_toBytes l Z a0 hw zc vfm (a1) (k1) (c0) (c1) (c2) (c3) (c4) (c5) T_175.heap n0 (Nat.le_trans Z0 KP_175.1) f176 hSt O_175) hZ (wd_31 hw) (wd_23 hw) (by decide) (by decide)) rfl (g := (mkF m 23 #[vR a1, vI 0, vI 6, vR b173, vI v1_175, vU] [(.int (6 : Int32)), (.int (0 : Int32)), (.ref a1)])) rfl (by rw [hml]; rfl) (argsL := [(.ref a1), (.int (0 : Int32)), (.int (6 : Int32))]) (rest := []) rfl (lenOf pd_4 rfl) rfl (by show 2 * 0 + _ ≤ _; exact Nat.le_of_eq rfl) (hb hby d_jdk_52_method_16_code_23) (by decide) (by decide)
  obtain ⟨r_177, kr_177, rfl, Nq_177, K_177, u0_177, u1_177⟩ := hQ_177
  have N_177 := Fr.app N_175 Nq_177
  have le_177 : T_175.heap.size ≤ T_177.heap.size := K_177.1
  have KP_177 := KP_175.trans K_177 all0
  have O_177 := O_175.keep K_177 all0
  have sz_r_177 : h0.size ≤ r_177 := Nat.le_trans (Nat.le_trans le_173 le_175) u0_177
  have g_r_177 : n0 ≤ r_177 := Nat.le_trans Z0 sz_r_177
  refine Go.step st_177 ?_
  show Go p e below _ (T_177.setTop (mkF m 26 #[vR a1, vI 0, vI 6, vR b173, vI v1_175, vU] [(.ref r_177)]))
  refine Go.step (fun _ k => XS.astore X_177.here hx rfl (hb hby d_jdk_52_method_16_code_26) rfl rfl (l' := #[vR a1, vI 0, vI 6, vR b173, vI v1_175, vR r_177]) rfl k) ?_
  show Go p e below _ (T_177.setTop (mkF m 28 #[vR a1, vI 0, vI 6, vR b173, vI v1_175, vR r_177] []))
  refine Go.step (fun _ k => XS.aload X_177.here hx rfl (hb hby d_jdk_52_method_16_code_28) rfl rfl k) ?_
  refine Go.step (fun _ k => XS.iload X_177.here hx rfl (hb hby d_jdk_52_method_16_code_30) rfl  k) ?_
  show Go p e below _ (T_177.setTop (mkF m 32 #[vR a1, vI 0, vI 6, vR b173, vI v1_175, vR r_177] [(.int v1_175), (.ref r_177)]))
  obtain ⟨v_178, T_178, L_178, X_178, hQ_178, st_178⟩ := goS X_177 hx hZ (y := Y_5) hown (wd_45 hw) (wd_46 hw) (wd_23 hw) (wd_47 hw) (by decide) (backOf (W := 0) (rm_getc l Z a0 hw zc vfm (r_177) (kr_177) c0 c1 c2 c3 c4 c5 (v1_175) T_177.heap n0 (Nat.le_trans Z0 KP_177.1) u1_177 hv.1 h_c0 h_c1 h_c2 h_c3 h_c4 h_c5 hSt O_177) hZ (wd_47 hw) (wd_23 hw) (by decide) (by decide)) rfl (g := (mkF m 32 #[vR a1, vI 0, vI 6, vR b173, vI v1_175, vR r_177] [(.int v1_175), (.ref r_177)])) rfl (by rw [hml]; rfl) (argsL := [(.ref r_177), (.int v1_175)]) (rest := []) rfl (lenOf pd_5 rfl) rfl (by show 2 * 0 + _ ≤ _; exact Nat.le_of_eq rfl) (hb hby d_jdk_52_method_16_code_32) (by decide) (by decide)
  obtain ⟨rfl, Nq_178, e_178⟩ := hQ_178
  have N_178 := Fr.app N_177 Nq_178
  refine Go.step st_178 ?_
  show Go p e below _ (T_178.setTop (mkF m 35 #[vR a1, vI 0, vI 6, vR b173, vI v1_175, vR r_177] [(.int (sel c0 c1 c2 c3 c4 c5 v1_175))]))
  refine Go.step (fun _ k => XS.sipush X_178.here hx rfl (hb hby d_jdk_52_method_16_code_35) k) ?_
  show Go p e below _ (T_178.setTop (mkF m 38 #[vR a1, vI 0, vI 6, vR b173, vI v1_175, vR r_177] [(.int (255 : Int32)), (.int (sel c0 c1 c2 c3 c4 c5 v1_175))]))
  refine Go.step (fun _ k => XS.icmpYes X_178.here hx rfl (pc0 := 38) (pc' := 54) rfl (hb hby d_jdk_52_method_16_code_38) rfl (tlt (hv.2 : (255 : Int32) < (sel c0 c1 c2 c3 c4 c5 v1_175))).2.2.1 (by decide) (by decide) k) ?_
  show Go p e below _ (T_178.setTop (mkF m 54 #[vR a1, vI 0, vI 6, vR b173, vI v1_175, vR r_177] []))
  refine Go.step (fun _ k => XS.aload X_178.here hx rfl (hb hby d_jdk_52_method_16_code_54) rfl rfl k) ?_
  show Go p e below _ (T_178.setTop (mkF m 56 #[vR a1, vI 0, vI 6, vR b173, vI v1_175, vR r_177] [(.ref r_177)]))
  exact Go.retV X_178 hx hlk hret rfl (Or.inr (Or.inr (Or.inr (Or.inr ⟨rfl, rfl, rfl⟩)))) (hb hby d_jdk_52_method_16_code_56) (by decide) (by decide) (by rw [e_178]; exact ⟨r_177, kr_177, rfl, N_178, KP_177, sz_r_177, u1_177⟩)
--@E
--@C cfL
def Q_cfL (Z : State) (zc : Int32) (vfm : Value) (a1 : Addr) (k1 : ClassId) (c0 : Int32) (c1 : Int32) (c2 : Int32) (c3 : Int32) (c4 : Int32) (c5 : Int32) (h0 : Heap) (n0 : Nat) (v : Option Value) (h : Heap) (L : List Loc) : Prop := v = some (.int (0 : Int32)) ∧ Fr n0 L ∧ h = h0
set_option maxRecDepth 65536 in
set_option maxHeartbeats 40000000 in
theorem rm_cfL (l : Launch) (Z : State) (a0 : Array Value) (hw : ∀ d ∈ tables_1, d.before a0 Z = true) (zc : Int32) (vfm : Value) (a1 : Addr) (k1 : ClassId) (c0 : Int32) (c1 : Int32) (c2 : Int32) (c3 : Int32) (c4 : Int32) (c5 : Int32) (h0 : Heap) (n0 : Nat) (Z0 : n0 ≤ h0.size) (A_a1 : Arv Z h0 a1 k1 .byte (6 : Int32) [(.int c0.toInt8.toInt32), (.int c1.toInt8.toInt32), (.int c2.toInt8.toInt32), (.int c3.toInt8.toInt32), (.int c4.toInt8.toInt32), (.int c5.toInt8.toInt32)] (.int (0 : Int32))) (hSt : St Z zc vfm) (hO : Old Z n0 h0) :
    CN l Z ({ cls := "java/lang/StringUTF16", name := "coderFromArrayLen", desc := "([BI)B" } : Jvm.MethodName) [(Jvm.Cond.code ({ cls := "java/lang/StringUTF16", name := "coderFromArrayLen", desc := "([BI)B" } : Jvm.MethodName) jdk_52_method_15_code (2 : Nat) (Option.some Jvm.ClassFile.FieldType.byte))] ({ frames := 0, cells := 0, slots := 0, locals := 0 } : Room) #[(.ref a1), (.int (6 : Int32))] h0 (Q_cfL Z zc vfm a1 k1 c0 c1 c2 c3 c4 c5 h0 n0) := by
  refine CN.of (L0 := #[vR a1, vI 6]) (plainFor_of_name pn_1) (fun m => by first | (simp [entryFrame, mkF, argsToLocals, Value.category]; done) | rfl) ?_
  intro p e s m below meth c s₁ hx hby hml hret hlk hZ hown hnm X0 e0
  have N0 := Fr.nil n0
  have KP0 := Keep.refl h0 []
  have hSt_ := hSt
  obtain ⟨S_cs, n_cs, S_fm, r_fm, S_ad, S_hi, S_lo⟩ := hSt_
  show Go p e below _ (s₁.setTop (mkF m 0 #[vR a1, vI 6] []))
  refine Go.step (fun _ k => XS.iloadN X0.here hx rfl (hb hby d_jdk_52_method_15_code_0) rfl  k) ?_
  refine Go.step (fun _ k => XS.aloadN X0.here hx rfl (hb hby d_jdk_52_method_15_code_1) rfl rfl k) ?_
  show Go p e below _ (s₁.setTop (mkF m 2 #[vR a1, vI 6] [(.ref a1), (.int (6 : Int32))]))
  have cp180 := A_a1
  obtain ⟨cl_179, Ar_179, -, Sz_179, Ng_179, -, -⟩ := cp180
  refine Go.step (fun _ k => X0.arraylength hx (by rw [e0]; exact Ar_179.1) (State.isArrayOf_alike hZ.alike Ar_179.2.1) (g := (mkF m 2 #[vR a1, vI 6] [(.ref a1), (.int (6 : Int32))])) rfl rfl (hb hby d_jdk_52_method_15_code_2) _ k) ?_
  rw [len_of Sz_179 Ng_179]
  show Go p e below _ (s₁.setTop (mkF m 3 #[vR a1, vI 6] [(.int (6 : Int32)), (.int (6 : Int32))]))
  refine Go.step (fun _ k => XS.isub X0.here hx rfl (hb hby d_jdk_52_method_15_code_3) rfl k) ?_
  show Go p e below _ (s₁.setTop (mkF m 4 #[vR a1, vI 6] [(.int ((6 : Int32) - (6 : Int32)))]))
  refine own_top (congrArg Value.int (show ((6 : Int32) - (6 : Int32)) = (0 : Int32) from by decide)) ?_
  show Go p e below _ (s₁.setTop (mkF m 4 #[vR a1, vI 6] [(.int (0 : Int32))]))
  refine Go.step (fun _ k => XS.bipush X0.here hx rfl (hb hby d_jdk_52_method_15_code_4) k) ?_
  show Go p e below _ (s₁.setTop (mkF m 6 #[vR a1, vI 6] [(.int (31 : Int32)), (.int (0 : Int32))]))
  refine Go.step (fun _ k => XS.iushr X0.here hx rfl (hb hby d_jdk_52_method_15_code_6) rfl k) ?_
  show Go p e below _ (s₁.setTop (mkF m 7 #[vR a1, vI 6] [(.int (((0 : Int32).toUInt32 >>> ((31 : Int32) &&& 31).toUInt32).toInt32))]))
  refine own_top (congrArg Value.int (show (((0 : Int32).toUInt32 >>> ((31 : Int32) &&& 31).toUInt32).toInt32) = (0 : Int32) from by decide)) ?_
  show Go p e below _ (s₁.setTop (mkF m 7 #[vR a1, vI 6] [(.int (0 : Int32))]))
  refine Go.step (fun _ k => XS.i2b X0.here hx rfl (hb hby d_jdk_52_method_15_code_7) rfl k) ?_
  show Go p e below _ (s₁.setTop (mkF m 8 #[vR a1, vI 6] [(.int (0 : Int32).toInt8.toInt32)]))
  refine own_top (congrArg Value.int (show (0 : Int32).toInt8.toInt32 = (0 : Int32) from by decide)) ?_
  show Go p e below _ (s₁.setTop (mkF m 8 #[vR a1, vI 6] [(.int (0 : Int32))]))
  exact Go.retV X0 hx hlk hret rfl (Or.inl ⟨rfl, Or.inr (Or.inr (Or.inl rfl)), _, rfl⟩) (hb hby d_jdk_52_method_15_code_8) (by decide) (by decide) (by rw [e0]; exact ⟨rfl, N0, rfl⟩)
--@E
--@C cfU
def Q_cfU (Z : State) (zc : Int32) (vfm : Value) (a1 : Addr) (k1 : ClassId) (c0 : Int32) (c1 : Int32) (c2 : Int32) (c3 : Int32) (c4 : Int32) (c5 : Int32) (h0 : Heap) (n0 : Nat) (v : Option Value) (h : Heap) (L : List Loc) : Prop := v = some (.int (1 : Int32)) ∧ Fr n0 L ∧ h = h0
set_option maxRecDepth 65536 in
set_option maxHeartbeats 40000000 in
theorem rm_cfU (l : Launch) (Z : State) (a0 : Array Value) (hw : ∀ d ∈ tables_1, d.before a0 Z = true) (zc : Int32) (vfm : Value) (a1 : Addr) (k1 : ClassId) (c0 : Int32) (c1 : Int32) (c2 : Int32) (c3 : Int32) (c4 : Int32) (c5 : Int32) (h0 : Heap) (n0 : Nat) (Z0 : n0 ≤ h0.size) (A_a1 : Arv Z h0 a1 k1 .byte (12 : Int32) [(.int (lo8 c0)), (.int (hi8 c0)), (.int (lo8 c1)), (.int (hi8 c1)), (.int (lo8 c2)), (.int (hi8 c2)), (.int (lo8 c3)), (.int (hi8 c3)), (.int (lo8 c4)), (.int (hi8 c4)), (.int (lo8 c5)), (.int (hi8 c5))] (.int (0 : Int32))) (hSt : St Z zc vfm) (hO : Old Z n0 h0) :
    CN l Z ({ cls := "java/lang/StringUTF16", name := "coderFromArrayLen", desc := "([BI)B" } : Jvm.MethodName) [(Jvm.Cond.code ({ cls := "java/lang/StringUTF16", name := "coderFromArrayLen", desc := "([BI)B" } : Jvm.MethodName) jdk_52_method_15_code (2 : Nat) (Option.some Jvm.ClassFile.FieldType.byte))] ({ frames := 0, cells := 0, slots := 0, locals := 0 } : Room) #[(.ref a1), (.int (6 : Int32))] h0 (Q_cfU Z zc vfm a1 k1 c0 c1 c2 c3 c4 c5 h0 n0) := by
  refine CN.of (L0 := #[vR a1, vI 6]) (plainFor_of_name pn_1) (fun m => by first | (simp [entryFrame, mkF, argsToLocals, Value.category]; done) | rfl) ?_
  intro p e s m below meth c s₁ hx hby hml hret hlk hZ hown hnm X0 e0
  have N0 := Fr.nil n0
  have KP0 := Keep.refl h0 []
  have hSt_ := hSt
  obtain ⟨S_cs, n_cs, S_fm, r_fm, S_ad, S_hi, S_lo⟩ := hSt_
  show Go p e below _ (s₁.setTop (mkF m 0 #[vR a1, vI 6] []))
  refine Go.step (fun _ k => XS.iloadN X0.here hx rfl (hb hby d_jdk_52_method_15_code_0) rfl  k) ?_
  refine Go.step (fun _ k => XS.aloadN X0.here hx rfl (hb hby d_jdk_52_method_15_code_1) rfl rfl k) ?_
  show Go p e below _ (s₁.setTop (mkF m 2 #[vR a1, vI 6] [(.ref a1), (.int (6 : Int32))]))
  have cp182 := A_a1
  obtain ⟨cl_181, Ar_181, -, Sz_181, Ng_181, -, -⟩ := cp182
  refine Go.step (fun _ k => X0.arraylength hx (by rw [e0]; exact Ar_181.1) (State.isArrayOf_alike hZ.alike Ar_181.2.1) (g := (mkF m 2 #[vR a1, vI 6] [(.ref a1), (.int (6 : Int32))])) rfl rfl (hb hby d_jdk_52_method_15_code_2) _ k) ?_
  rw [len_of Sz_181 Ng_181]
  show Go p e below _ (s₁.setTop (mkF m 3 #[vR a1, vI 6] [(.int (12 : Int32)), (.int (6 : Int32))]))
  refine Go.step (fun _ k => XS.isub X0.here hx rfl (hb hby d_jdk_52_method_15_code_3) rfl k) ?_
  show Go p e below _ (s₁.setTop (mkF m 4 #[vR a1, vI 6] [(.int ((6 : Int32) - (12 : Int32)))]))
  refine own_top (congrArg Value.int (show ((6 : Int32) - (12 : Int32)) = (-6 : Int32) from by decide)) ?_
  show Go p e below _ (s₁.setTop (mkF m 4 #[vR a1, vI 6] [(.int (-6 : Int32))]))
  refine Go.step (fun _ k => XS.bipush X0.here hx rfl (hb hby d_jdk_52_method_15_code_4) k) ?_
  show Go p e below _ (s₁.setTop (mkF m 6 #[vR a1, vI 6] [(.int (31 : Int32)), (.int (-6 : Int32))]))
  refine Go.step (fun _ k => XS.iushr X0.here hx rfl (hb hby d_jdk_52_method_15_code_6) rfl k) ?_
  show Go p e below _ (s₁.setTop (mkF m 7 #[vR a1, vI 6] [(.int (((-6 : Int32).toUInt32 >>> ((31 : Int32) &&& 31).toUInt32).toInt32))]))
  refine own_top (congrArg Value.int (show (((-6 : Int32).toUInt32 >>> ((31 : Int32) &&& 31).toUInt32).toInt32) = (1 : Int32) from by decide)) ?_
  show Go p e below _ (s₁.setTop (mkF m 7 #[vR a1, vI 6] [(.int (1 : Int32))]))
  refine Go.step (fun _ k => XS.i2b X0.here hx rfl (hb hby d_jdk_52_method_15_code_7) rfl k) ?_
  show Go p e below _ (s₁.setTop (mkF m 8 #[vR a1, vI 6] [(.int (1 : Int32).toInt8.toInt32)]))
  refine own_top (congrArg Value.int (show (1 : Int32).toInt8.toInt32 = (1 : Int32) from by decide)) ?_
  show Go p e below _ (s₁.setTop (mkF m 8 #[vR a1, vI 6] [(.int (1 : Int32))]))
  exact Go.retV X0 hx hlk hret rfl (Or.inl ⟨rfl, Or.inr (Or.inr (Or.inl rfl)), _, rfl⟩) (hb hby d_jdk_52_method_15_code_8) (by decide) (by decide) (by rw [e0]; exact ⟨rfl, N0, rfl⟩)
--@E
--@C init4L
def Q_init4L (Z : State) (zc : Int32) (vfm : Value) (a1 : Addr) (a2 : Addr) (k2 : ClassId) (c0 : Int32) (c1 : Int32) (c2 : Int32) (c3 : Int32) (c4 : Int32) (c5 : Int32) (h0 : Heap) (n0 : Nat) (v : Option Value) (h : Heap) (L : List Loc) : Prop := ∃ (t : Addr) (kb : ClassId), v = none ∧ Fr n0 L ∧ Keep h0 h [a1] ∧ Exa Z h a1 "java/lang/String" ∧ Fld Z h a1 "java/lang/String" "value" "[B" (.ref t) ∧ Fld Z h a1 "java/lang/String" "coder" "B" (.int (0 : Int32)) ∧ Arv Z h t kb .byte (6 : Int32) [(.int c0.toInt8.toInt32), (.int c1.toInt8.toInt32), (.int c2.toInt8.toInt32), (.int c3.toInt8.toInt32), (.int c4.toInt8.toInt32), (.int c5.toInt8.toInt32)] (.int (0 : Int32))
set_option maxRecDepth 65536 in
set_option maxHeartbeats 40000000 in
theorem rm_init4L (l : Launch) (Z : State) (a0 : Array Value) (hw : ∀ d ∈ tables_1, d.before a0 Z = true) (zc : Int32) (vfm : Value) (a1 : Addr) (a2 : Addr) (k2 : ClassId) (c0 : Int32) (c1 : Int32) (c2 : Int32) (c3 : Int32) (c4 : Int32) (c5 : Int32) (h0 : Heap) (n0 : Nat) (Z0 : n0 ≤ h0.size) (E_a1 : Exa Z h0 a1 "java/lang/String") (F_a1v : Fld Z h0 a1 "java/lang/String" "value" "[B" .null) (F_a1c : Fld Z h0 a1 "java/lang/String" "coder" "B" (.int (0 : Int32))) (g_a1 : n0 ≤ a1) (A_a2 : Arv Z h0 a2 k2 .char (6 : Int32) [(.int c0), (.int c1), (.int c2), (.int c3), (.int c4), (.int c5)] (.int (0 : Int32))) (l_c0 : (¬ (255 : Int32) < c0)) (l_c1 : (¬ (255 : Int32) < c1)) (l_c2 : (¬ (255 : Int32) < c2)) (l_c3 : (¬ (255 : Int32) < c3)) (l_c4 : (¬ (255 : Int32) < c4)) (l_c5 : (¬ (255 : Int32) < c5)) (hSt : St Z zc vfm) (hO : Old Z n0 h0) :
    CN l Z ({ cls := "java/lang/String", name := "<init>", desc := "([CIILjava/lang/Void;)V" } : Jvm.MethodName) [(Jvm.Cond.code ({ cls := "java/lang/String", name := "<init>", desc := "([CIILjava/lang/Void;)V" } : Jvm.MethodName) jdk_42_method_149_code (6 : Nat) (Option.none : Option Jvm.ClassFile.FieldType))] ({ frames := 2, cells := 1, slots := 6, locals := 35 } : Room) #[(.ref a1), (.ref a2), (.int (0 : Int32)), (.int (6 : Int32)), .null] h0 (Q_init4L Z zc vfm a1 a2 k2 c0 c1 c2 c3 c4 c5 h0 n0) := by
  refine CN.of (L0 := #[vR a1, vR a2, vI 0, vI 6, .val .null, vU]) (plainFor_of_name pn_2) (fun m => by first | (simp [entryFrame, mkF, argsToLocals, Value.category]; done) | rfl) ?_
  intro p e s m below meth c s₁ hx hby hml hret hlk hZ hown hnm X0 e0
  have N0 := Fr.nil n0
  have KP0 := Keep.refl h0 [a1]
  have hSt_ := hSt
  obtain ⟨S_cs, n_cs, S_fm, r_fm, S_ad, S_hi, S_lo⟩ := hSt_
  show Go p e below _ (s₁.setTop (mkF m 0 #[vR a1, vR a2, vI 0, vI 6, .val .null, vU] []))
  refine Go.step (fun _ k => XS.aloadN X0.here hx rfl (hb hby d_jdk_42_method_149_code_0) rfl rfl k) ?_
  show Go p e below _ (s₁.setTop (mkF m 1 #[vR a1, vR a2, vI 0, vI 6, .val .null, vU] [(.ref a1)]))
  obtain ⟨T_183, X_183, e_183, st_183⟩ := initO X0 hx hZ hown (wd_17 hw) (wd_18 hw) (wd_19 hw) e0 (g := (mkF m 1 #[vR a1, vR a2, vI 0, vI 6, .val .null, vU] [(.ref a1)])) rfl (by rw [hml]; rfl) rfl (hb hby d_jdk_42_method_149_code_1) (by decide) (W := 0) (by show 2 * 0 + _ ≤ _; exact Nat.le_of_eq rfl) (by decide)
  refine Go.step st_183 ?_
  show Go p e below _ (T_183.setTop (mkF m 4 #[vR a1, vR a2, vI 0, vI 6, .val .null, vU] []))
  refine Go.step (fun _ k => XS.iloadN X_183.here hx rfl (hb hby d_jdk_42_method_149_code_4) rfl  k) ?_
  show Go p e below _ (T_183.setTop (mkF m 5 #[vR a1, vR a2, vI 0, vI 6, .val .null, vU] [(.int (6 : Int32))]))
  refine Go.step (fun _ k => XS.ifYes X_183.here hx rfl (pc0 := 5) (pc' := 27) rfl (hb hby d_jdk_42_method_149_code_5) rfl ((if0 _ _).trans (feq ((by decide) : ¬ ((6 : Int32) = (0 : Int32)))).2) (by decide) (by decide) k) ?_
  show Go p e below _ (T_183.setTop (mkF m 27 #[vR a1, vR a2, vI 0, vI 6, .val .null, vU] []))
  obtain ⟨T_184, X_184, e_184, st_184⟩ := getS2 X_183 hx hZ hown (host := "") (Or.inl (wd_20 hw)) Via.refl e_183 (S_cs.ext hO.2) (g := (mkF m 27 #[vR a1, vR a2, vI 0, vI 6, .val .null, vU] [])) rfl (hb hby d_jdk_42_method_149_code_27)
  refine Go.step st_184 ?_
  show Go p e below _ (T_184.setTop (mkF m 30 #[vR a1, vR a2, vI 0, vI 6, .val .null, vU] [(.int zc)]))
  refine Go.step (fun _ k => XS.ifNo X_184.here hx rfl (hb hby d_jdk_42_method_149_code_30) rfl ((if0 _ _).trans (feq (n_cs : ¬ (zc = (0 : Int32)))).1) k) ?_
  show Go p e below _ (T_184.setTop (mkF m 33 #[vR a1, vR a2, vI 0, vI 6, .val .null, vU] []))
  refine Go.step (fun _ k => XS.aloadN X_184.here hx rfl (hb hby d_jdk_42_method_149_code_33) rfl rfl k) ?_
  refine Go.step (fun _ k => XS.iloadN X_184.here hx rfl (hb hby d_jdk_42_method_149_code_34) rfl  k) ?_
  refine Go.step (fun _ k => XS.iloadN X_184.here hx rfl (hb hby d_jdk_42_method_149_code_35) rfl  k) ?_
  show Go p e below _ (T_184.setTop (mkF m 36 #[vR a1, vR a2, vI 0, vI 6, .val .null, vU] [(.int (6 : Int32)), (.int (0 : Int32)), (.ref a2)]))
  obtain ⟨v_185, T_185, L_185, X_185, hQ_185, st_185⟩ := goS X_184 hx hZ (y := Y_6) hown (wd_21 hw) (wd_22 hw) (wd_23 hw) (wd_24 hw) (by decide) (backOf (W := 0) (rm_c3L l Z a0 hw zc vfm (a2) (k2) (c0) (c1) (c2) (c3) (c4) (c5) h0 n0 (Nat.le_trans Z0 KP0.1) A_a2 l_c0 l_c1 l_c2 l_c3 l_c4 l_c5 hSt hO) hZ (wd_24 hw) (wd_23 hw) (by decide) (by decide)) e_184 (g := (mkF m 36 #[vR a1, vR a2, vI 0, vI 6, .val .null, vU] [(.int (6 : Int32)), (.int (0 : Int32)), (.ref a2)])) rfl (by rw [hml]; rfl) (argsL := [(.ref a2), (.int (0 : Int32)), (.int (6 : Int32))]) (rest := []) rfl (lenOf pd_4 rfl) rfl (by show 2 * 0 + _ ≤ _; exact Nat.le_of_eq rfl) (hb hby d_jdk_42_method_149_code_36) (by decide) (by decide)
  obtain ⟨r_185, kr_185, rfl, Nq_185, K_185, u0_185, u1_185⟩ := hQ_185
  have N_185 := Fr.app N0 Nq_185
  have le_185 : h0.size ≤ T_185.heap.size := K_185.1
  have KP_185 := KP0.trans K_185 all0
  have O_185 := hO.keep K_185 all0
  have sz_r_185 : h0.size ≤ r_185 := Nat.le_trans (Nat.le_refl _) u0_185
  have g_r_185 : n0 ≤ r_185 := Nat.le_trans Z0 sz_r_185
  refine Go.step st_185 ?_
  show Go p e below _ (T_185.setTop (mkF m 39 #[vR a1, vR a2, vI 0, vI 6, .val .null, vU] [(.ref r_185)]))
  refine Go.step (fun _ k => XS.astore X_185.here hx rfl (hb hby d_jdk_42_method_149_code_39) rfl rfl (l' := #[vR a1, vR a2, vI 0, vI 6, .val .null, vR r_185]) rfl k) ?_
  show Go p e below _ (T_185.setTop (mkF m 41 #[vR a1, vR a2, vI 0, vI 6, .val .null, vR r_185] []))
  refine Go.step (fun _ k => XS.aloadN X_185.here hx rfl (hb hby d_jdk_42_method_149_code_41) rfl rfl k) ?_
  refine Go.step (fun _ k => XS.aload X_185.here hx rfl (hb hby d_jdk_42_method_149_code_42) rfl rfl k) ?_
  refine Go.step (fun _ k => XS.iloadN X_185.here hx rfl (hb hby d_jdk_42_method_149_code_44) rfl  k) ?_
  show Go p e below _ (T_185.setTop (mkF m 45 #[vR a1, vR a2, vI 0, vI 6, .val .null, vR r_185] [(.int (6 : Int32)), (.ref r_185), (.ref a1)]))
  obtain ⟨v_186, T_186, L_186, X_186, hQ_186, st_186⟩ := goS X_185 hx hZ (y := Y_7) hown (wd_48 hw) (wd_49 hw) (wd_23 hw) (wd_50 hw) (by decide) (backOf (W := 1) (rm_cfL l Z a0 hw zc vfm (r_185) (kr_185) c0 c1 c2 c3 c4 c5 T_185.heap n0 (Nat.le_trans Z0 KP_185.1) u1_185 hSt O_185) hZ (wd_50 hw) (wd_23 hw) (by decide) (by decide)) rfl (g := (mkF m 45 #[vR a1, vR a2, vI 0, vI 6, .val .null, vR r_185] [(.int (6 : Int32)), (.ref r_185), (.ref a1)])) rfl (by rw [hml]; rfl) (argsL := [(.ref r_185), (.int (6 : Int32))]) (rest := [(.ref a1)]) rfl (lenOf pd_6 rfl) rfl (by show 2 * 0 + _ ≤ _; exact Nat.le_of_eq rfl) (hb hby d_jdk_42_method_149_code_45) (by decide) (by decide)
  obtain ⟨rfl, Nq_186, e_186⟩ := hQ_186
  have N_186 := Fr.app N_185 Nq_186
  refine Go.step st_186 ?_
  show Go p e below _ (T_186.setTop (mkF m 48 #[vR a1, vR a2, vI 0, vI 6, .val .null, vR r_185] [(.int (0 : Int32)), (.ref a1)]))
  have f187 : Exa Z T_185.heap a1 "java/lang/String" := (E_a1.keep K_185)
  have f188 : Fld Z T_185.heap a1 "java/lang/String" "coder" "B" (.int (0 : Int32)) := (F_a1c.keep K_185 nin0)
  obtain ⟨T_189, h_189, X_189, e_189, W_189, st_189⟩ := putFN X_186 hx hZ hown (wd_51 hw) Via.refl e_186 f188 f187 (Or.inr ⟨(wd_52 hw), rfl, hnm⟩) (wd_8 hw) (ty := .byte) (v' := (.int (0 : Int32))) pf_0 rfl (by decide) (g := (mkF m 48 #[vR a1, vR a2, vI 0, vI 6, .val .null, vR r_185] [(.int (0 : Int32)), (.ref a1)])) rfl rfl (hb hby d_jdk_42_method_149_code_48)
  refine Go.step st_189 ?_
  have N_189 := Fr.snoc X_189 N_186 g_a1
  have le_189 : T_185.heap.size ≤ h_189.size := Nat.le_of_eq W_189.size.symm
  have KP_189 := KP_185.wr W_189 (Or.inl (List.mem_of_getElem? (i := 0) rfl))
  have O_189 := O_185.wr W_189 g_a1
  have F_189 : Fld Z h_189 a1 "java/lang/String" "coder" "B" (.int (0 : Int32)) := f188.same W_189
  show Go p e below _ (T_189.setTop (mkF m 51 #[vR a1, vR a2, vI 0, vI 6, .val .null, vR r_185] []))
  refine Go.step (fun _ k => XS.aloadN X_189.here hx rfl (hb hby d_jdk_42_method_149_code_51) rfl rfl k) ?_
  refine Go.step (fun _ k => XS.aload X_189.here hx rfl (hb hby d_jdk_42_method_149_code_52) rfl rfl k) ?_
  show Go p e below _ (T_189.setTop (mkF m 54 #[vR a1, vR a2, vI 0, vI 6, .val .null, vR r_185] [(.ref r_185), (.ref a1)]))
  have f190 : Exa Z h_189 a1 "java/lang/String" := (f187.wr W_189)
  have f191 : Fld Z h_189 a1 "java/lang/String" "value" "[B" .null := ((F_a1v.keep K_185 nin0).other W_189 (Or.inr (sn_0 hw)))
  obtain ⟨T_192, h_192, X_192, e_192, W_192, st_192⟩ := putF X_189 hx hZ hown (host := "") (Or.inl (wd_53 hw)) Via.refl e_189 f191 f190 (Or.inr ⟨(wd_54 hw), rfl, hnm⟩) (wd_8 hw) (ty := (.array .byte)) pf_1 rfl rfl (g := (mkF m 54 #[vR a1, vR a2, vI 0, vI 6, .val .null, vR r_185] [(.ref r_185), (.ref a1)])) rfl rfl (hb hby d_jdk_42_method_149_code_54)
  refine Go.step st_192 ?_
  have N_192 := Fr.snoc X_192 N_189 g_a1
  have le_192 : h_189.size ≤ h_192.size := Nat.le_of_eq W_192.size.symm
  have KP_192 := KP_189.wr W_192 (Or.inl (List.mem_of_getElem? (i := 0) rfl))
  have O_192 := O_189.wr W_192 g_a1
  have F_192 : Fld Z h_192 a1 "java/lang/String" "value" "[B" (.ref r_185) := f191.same W_192
  show Go p e below _ (T_192.setTop (mkF m 57 #[vR a1, vR a2, vI 0, vI 6, .val .null, vR r_185] []))
  have f193 : Exa Z h_192 a1 "java/lang/String" := (f190.wr W_192)
  have f194 : Fld Z h_192 a1 "java/lang/String" "coder" "B" (.int (0 : Int32)) := (F_189.other W_192 (Or.inr (sn_1 hw)))
  have f195 : Arv Z h_192 r_185 kr_185 .byte (6 : Int32) [(.int c0.toInt8.toInt32), (.int c1.toInt8.toInt32), (.int c2.toInt8.toInt32), (.int c3.toInt8.toInt32), (.int c4.toInt8.toInt32), (.int c5.toInt8.toInt32)] (.int (0 : Int32)) := ((u1_185.other W_189 (Ne.symm (Nat.ne_of_lt (Nat.lt_of_lt_of_le E_a1.lt (Nat.le_trans (Nat.le_refl _) u0_185))))).other W_192 (Ne.symm (Nat.ne_of_lt (Nat.lt_of_lt_of_le E_a1.lt (Nat.le_trans (Nat.le_refl _) u0_185)))))
  exact Go.ret0 X_192 hx hlk hret (hb hby d_jdk_42_method_149_code_57) (by decide) (by decide) (by rw [e_192]; exact ⟨r_185, kr_185, rfl, N_192, KP_192, f193, F_192, f194, f195⟩)
--@E
--@C init1L
def Q_init1L (Z : State) (zc : Int32) (vfm : Value) (a1 : Addr) (a2 : Addr) (k2 : ClassId) (c0 : Int32) (c1 : Int32) (c2 : Int32) (c3 : Int32) (c4 : Int32) (c5 : Int32) (h0 : Heap) (n0 : Nat) (v : Option Value) (h : Heap) (L : List Loc) : Prop := ∃ (t : Addr) (kb : ClassId), v = none ∧ Fr n0 L ∧ Keep h0 h [a1] ∧ Exa Z h a1 "java/lang/String" ∧ Fld Z h a1 "java/lang/String" "value" "[B" (.ref t) ∧ Fld Z h a1 "java/lang/String" "coder" "B" (.int (0 : Int32)) ∧ Arv Z h t kb .byte (6 : Int32) [(.int c0.toInt8.toInt32), (.int c1.toInt8.toInt32), (.int c2.toInt8.toInt32), (.int c3.toInt8.toInt32), (.int c4.toInt8.toInt32), (.int c5.toInt8.toInt32)] (.int (0 : Int32))
set_option maxRecDepth 65536 in
set_option maxHeartbeats 40000000 in
theorem rm_init1L (l : Launch) (Z : State) (a0 : Array Value) (hw : ∀ d ∈ tables_1, d.before a0 Z = true) (zc : Int32) (vfm : Value) (a1 : Addr) (a2 : Addr) (k2 : ClassId) (c0 : Int32) (c1 : Int32) (c2 : Int32) (c3 : Int32) (c4 : Int32) (c5 : Int32) (h0 : Heap) (n0 : Nat) (Z0 : n0 ≤ h0.size) (E_a1 : Exa Z h0 a1 "java/lang/String") (F_a1v : Fld Z h0 a1 "java/lang/String" "value" "[B" .null) (F_a1c : Fld Z h0 a1 "java/lang/String" "coder" "B" (.int (0 : Int32))) (g_a1 : n0 ≤ a1) (A_a2 : Arv Z h0 a2 k2 .char (6 : Int32) [(.int c0), (.int c1), (.int c2), (.int c3), (.int c4), (.int c5)] (.int (0 : Int32))) (l_c0 : (¬ (255 : Int32) < c0)) (l_c1 : (¬ (255 : Int32) < c1)) (l_c2 : (¬ (255 : Int32) < c2)) (l_c3 : (¬ (255 : Int32) < c3)) (l_c4 : (¬ (255 : Int32) < c4)) (l_c5 : (¬ (255 : Int32) < c5)) (hSt : St Z zc vfm) (hO : Old Z n0 h0) :
    CN l Z ({ cls := "java/lang/String", name := "<init>", desc := "([C)V" } : Jvm.MethodName) [(Jvm.Cond.code ({ cls := "java/lang/String", name := "<init>", desc := "([C)V" } : Jvm.MethodName) jdk_42_method_3_code (2 : Nat) (Option.none : Option Jvm.ClassFile.FieldType))] ({ frames := 3, cells := 1, slots := 6, locals := 52 } : Room) #[(.ref a1), (.ref a2)] h0 (Q_init1L Z zc vfm a1 a2 k2 c0 c1 c2 c3 c4 c5 h0 n0) := by
  refine CN.of (L0 := #[vR a1, vR a2]) (plainFor_of_name pn_2) (fun m => by first | (simp [entryFrame, mkF, argsToLocals, Value.category]; done) | rfl) ?_
  intro p e s m below meth c s₁ hx hby hml hret hlk hZ hown hnm X0 e0
  have N0 := Fr.nil n0
  have KP0 := Keep.refl h0 [a1]
  have hSt_ := hSt
  obtain ⟨S_cs, n_cs, S_fm, r_fm, S_ad, S_hi, S_lo⟩ := hSt_
  show Go p e below _ (s₁.setTop (mkF m 0 #[vR a1, vR a2] []))
  refine Go.step (fun _ k => XS.aloadN X0.here hx rfl (hb hby d_jdk_42_method_3_code_0) rfl rfl k) ?_
  refine Go.step (fun _ k => XS.aloadN X0.here hx rfl (hb hby d_jdk_42_method_3_code_1) rfl rfl k) ?_
  refine Go.step (fun _ k => XS.iconst X0.here hx rfl (hb hby d_jdk_42_method_3_code_2) k) ?_
  refine Go.step (fun _ k => XS.aloadN X0.here hx rfl (hb hby d_jdk_42_method_3_code_3) rfl rfl k) ?_
  show Go p e below _ (s₁.setTop (mkF m 4 #[vR a1, vR a2] [(.ref a2), (.int (0 : Int32)), (.ref a2), (.ref a1)]))
  have cp197 := A_a2
  obtain ⟨cl_196, Ar_196, -, Sz_196, Ng_196, -, -⟩ := cp197
  refine Go.step (fun _ k => X0.arraylength hx (by rw [e0]; exact Ar_196.1) (State.isArrayOf_alike hZ.alike Ar_196.2.1) (g := (mkF m 4 #[vR a1, vR a2] [(.ref a2), (.int (0 : Int32)), (.ref a2), (.ref a1)])) rfl rfl (hb hby d_jdk_42_method_3_code_4) _ k) ?_
  rw [len_of Sz_196 Ng_196]
  show Go p e below _ (s₁.setTop (mkF m 5 #[vR a1, vR a2] [(.int (6 : Int32)), (.int (0 : Int32)), (.ref a2), (.ref a1)]))
  refine Go.step (fun _ k => XS.aconstNull X0.here hx rfl (hb hby d_jdk_42_method_3_code_5) k) ?_
  show Go p e below _ (s₁.setTop (mkF m 6 #[vR a1, vR a2] [.null, (.int (6 : Int32)), (.int (0 : Int32)), (.ref a2), (.ref a1)]))
  obtain ⟨v_198, T_198, L_198, X_198, hQ_198, st_198⟩ := goC X0 hx hZ (y := Y_8) hown rfl (wd_13 hw) (wd_14 hw) (wd_16 hw) (by decide) (backOf (W := 0) (rm_init4L l Z a0 hw zc vfm (a1) (a2) (k2) (c0) (c1) (c2) (c3) (c4) (c5) h0 n0 (Nat.le_trans Z0 KP0.1) E_a1 F_a1v F_a1c g_a1 A_a2 l_c0 l_c1 l_c2 l_c3 l_c4 l_c5 hSt hO) hZ (wd_16 hw) (wd_9 hw) (by decide) (by decide)) e0 (g := (mkF m 6 #[vR a1, vR a2] [.null, (.int (6 : Int32)), (.int (0 : Int32)), (.ref a2), (.ref a1)])) rfl (by rw [hml]; rfl) (a := a1) (argsL := [(.ref a2), (.int (0 : Int32)), (.int (6 : Int32)), .null]) (rest := []) rfl (lenOf pd_7 rfl) rfl (by show 2 * 0 + _ ≤ _; exact Nat.le_of_eq rfl) (hb hby d_jdk_42_method_3_code_6) (by decide) (by decide)
  obtain ⟨t_198, kb_198, rfl, Nq_198, K_198, u0_198, u1_198, u2_198, u3_198⟩ := hQ_198
  have N_198 := Fr.app N0 Nq_198
  have le_198 : h0.size ≤ T_198.heap.size := K_198.1
  have KP_198 := KP0.trans K_198 (allS (Or.inl (List.mem_of_getElem? (i := 0) rfl)) all0)
  have O_198 := hO.keep K_198 (allS g_a1 all0)
  refine Go.step st_198 ?_
  show Go p e below _ (T_198.setTop (mkF m 9 #[vR a1, vR a2] []))
  exact Go.ret0 X_198 hx hlk hret (hb hby d_jdk_42_method_3_code_9) (by decide) (by decide) (by exact ⟨t_198, kb_198, rfl, N_198, KP_198, u0_198, u1_198, u2_198, u3_198⟩)
--@E
--@C init4U
def Q_init4U (Z : State) (zc : Int32) (vfm : Value) (a1 : Addr) (a2 : Addr) (k2 : ClassId) (c0 : Int32) (c1 : Int32) (c2 : Int32) (c3 : Int32) (c4 : Int32) (c5 : Int32) (h0 : Heap) (n0 : Nat) (v : Option Value) (h : Heap) (L : List Loc) : Prop := ∃ (t : Addr) (kb : ClassId), v = none ∧ Fr n0 L ∧ Keep h0 h [a1] ∧ Exa Z h a1 "java/lang/String" ∧ Fld Z h a1 "java/lang/String" "value" "[B" (.ref t) ∧ Fld Z h a1 "java/lang/String" "coder" "B" (.int (1 : Int32)) ∧ Arv Z h t kb .byte (12 : Int32) [(.int (lo8 c0)), (.int (hi8 c0)), (.int (lo8 c1)), (.int (hi8 c1)), (.int (lo8 c2)), (.int (hi8 c2)), (.int (lo8 c3)), (.int (hi8 c3)), (.int (lo8 c4)), (.int (hi8 c4)), (.int (lo8 c5)), (.int (hi8 c5))] (.int (0 : Int32))
set_option maxRecDepth 65536 in
set_option maxHeartbeats 40000000 in
theorem rm_init4U (l : Launch) (Z : State) (a0 : Array Value) (hw : ∀ d ∈ tables_1, d.before a0 Z = true) (zc : Int32) (vfm : Value) (a1 : Addr) (a2 : Addr) (k2 : ClassId) (c0 : Int32) (c1 : Int32) (c2 : Int32) (c3 : Int32) (c4 : Int32) (c5 : Int32) (h0 : Heap) (n0 : Nat) (Z0 : n0 ≤ h0.size) (E_a1 : Exa Z h0 a1 "java/lang/String") (F_a1v : Fld Z h0 a1 "java/lang/String" "value" "[B" .null) (F_a1c : Fld Z h0 a1 "java/lang/String" "coder" "B" (.int (0 : Int32))) (g_a1 : n0 ≤ a1) (A_a2 : Arv Z h0 a2 k2 .char (6 : Int32) [(.int c0), (.int c1), (.int c2), (.int c3), (.int c4), (.int c5)] (.int (0 : Int32))) (hU : (¬ (¬ (255 : Int32) < c0 ∧ ¬ (255 : Int32) < c1 ∧ ¬ (255 : Int32) < c2 ∧ ¬ (255 : Int32) < c3 ∧ ¬ (255 : Int32) < c4 ∧ ¬ (255 : Int32) < c5))) (h_c0 : (0 ≤ c0.toInt ∧ c0.toInt ≤ 65535)) (h_c1 : (0 ≤ c1.toInt ∧ c1.toInt ≤ 65535)) (h_c2 : (0 ≤ c2.toInt ∧ c2.toInt ≤ 65535)) (h_c3 : (0 ≤ c3.toInt ∧ c3.toInt ≤ 65535)) (h_c4 : (0 ≤ c4.toInt ∧ c4.toInt ≤ 65535)) (h_c5 : (0 ≤ c5.toInt ∧ c5.toInt ≤ 65535)) (hSt : St Z zc vfm) (hO : Old Z n0 h0) :
    CN l Z ({ cls := "java/lang/String", name := "<init>", desc := "([CIILjava/lang/Void;)V" } : Jvm.MethodName) [(Jvm.Cond.code ({ cls := "java/lang/String", name := "<init>", desc := "([CIILjava/lang/Void;)V" } : Jvm.MethodName) jdk_42_method_149_code (6 : Nat) (Option.none : Option Jvm.ClassFile.FieldType))] ({ frames := 4, cells := 2, slots := 18, locals := 57 } : Room) #[(.ref a1), (.ref a2), (.int (0 : Int32)), (.int (6 : Int32)), .null] h0 (Q_init4U Z zc vfm a1 a2 k2 c0 c1 c2 c3 c4 c5 h0 n0) := by
  refine CN.of (L0 := #[vR a1, vR a2, vI 0, vI 6, .val .null, vU]) (plainFor_of_name pn_2) (fun m => by first | (simp [entryFrame, mkF, argsToLocals, Value.category]; done) | rfl) ?_
  intro p e s m below meth c s₁ hx hby hml hret hlk hZ hown hnm X0 e0
  have N0 := Fr.nil n0
  have KP0 := Keep.refl h0 [a1]
  have hSt_ := hSt
  obtain ⟨S_cs, n_cs, S_fm, r_fm, S_ad, S_hi, S_lo⟩ := hSt_
  show Go p e below _ (s₁.setTop (mkF m 0 #[vR a1, vR a2, vI 0, vI 6, .val .null, vU] []))
  refine Go.step (fun _ k => XS.aloadN X0.here hx rfl (hb hby d_jdk_42_method_149_code_0) rfl rfl k) ?_
  show Go p e below _ (s₁.setTop (mkF m 1 #[vR a1, vR a2, vI 0, vI 6, .val .null, vU] [(.ref a1)]))
  obtain ⟨T_199, X_199, e_199, st_199⟩ := initO X0 hx hZ hown (wd_17 hw) (wd_18 hw) (wd_19 hw) e0 (g := (mkF m 1 #[vR a1, vR a2, vI 0, vI 6, .val .null, vU] [(.ref a1)])) rfl (by rw [hml]; rfl) rfl (hb hby d_jdk_42_method_149_code_1) (by decide) (W := 0) (by show 2 * 0 + _ ≤ _; exact Nat.le_of_eq rfl) (by decide)
  refine Go.step st_199 ?_
  show Go p e below _ (T_199.setTop (mkF m 4 #[vR a1, vR a2, vI 0, vI 6, .val .null, vU] []))
  refine Go.step (fun _ k => XS.iloadN X_199.here hx rfl (hb hby d_jdk_42_method_149_code_4) rfl  k) ?_
  show Go p e below _ (T_199.setTop (mkF m 5 #[vR a1, vR a2, vI 0, vI 6, .val .null, vU] [(.int (6 : Int32))]))
  refine Go.step (fun _ k => XS.ifYes X_199.here hx rfl (pc0 := 5) (pc' := 27) rfl (hb hby d_jdk_42_method_149_code_5) rfl ((if0 _ _).trans (feq ((by decide) : ¬ ((6 : Int32) = (0 : Int32)))).2) (by decide) (by decide) k) ?_
  show Go p e below _ (T_199.setTop (mkF m 27 #[vR a1, vR a2, vI 0, vI 6, .val .null, vU] []))
  obtain ⟨T_200, X_200, e_200, st_200⟩ := getS2 X_199 hx hZ hown (host := "") (Or.inl (wd_20 hw)) Via.refl e_199 (S_cs.ext hO.2) (g := (mkF m 27 #[vR a1, vR a2, vI 0, vI 6, .val .null, vU] [])) rfl (hb hby d_jdk_42_method_149_code_27)
  refine Go.step st_200 ?_
  show Go p e below _ (T_200.setTop (mkF m 30 #[vR a1, vR a2, vI 0, vI 6, .val .null, vU] [(.int zc)]))
  refine Go.step (fun _ k => XS.ifNo X_200.here hx rfl (hb hby d_jdk_42_method_149_code_30) rfl ((if0 _ _).trans (feq (n_cs : ¬ (zc = (0 : Int32)))).1) k) ?_
  show Go p e below _ (T_200.setTop (mkF m 33 #[vR a1, vR a2, vI 0, vI 6, .val .null, vU] []))
  refine Go.step (fun _ k => XS.aloadN X_200.here hx rfl (hb hby d_jdk_42_method_149_code_33) rfl rfl k) ?_
  refine Go.step (fun _ k => XS.iloadN X_200.here hx rfl (hb hby d_jdk_42_method_149_code_34) rfl  k) ?_
  refine Go.step (fun _ k => XS.iloadN X_200.here hx rfl (hb hby d_jdk_42_method_149_code_35) rfl  k) ?_
  show Go p e below _ (T_200.setTop (mkF m 36 #[vR a1, vR a2, vI 0, vI 6, .val .null, vU] [(.int (6 : Int32)), (.int (0 : Int32)), (.ref a2)]))
  obtain ⟨v_201, T_201, L_201, X_201, hQ_201, st_201⟩ := goS X_200 hx hZ (y := Y_6) hown (wd_21 hw) (wd_22 hw) (wd_23 hw) (wd_24 hw) (by decide) (backOf (W := 0) (rm_c3U l Z a0 hw zc vfm (a2) (k2) (c0) (c1) (c2) (c3) (c4) (c5) h0 n0 (Nat.le_trans Z0 KP0.1) A_a2 hU h_c0 h_c1 h_c2 h_c3 h_c4 h_c5 hSt hO) hZ (wd_24 hw) (wd_23 hw) (by decide) (by decide)) e_200 (g := (mkF m 36 #[vR a1, vR a2, vI 0, vI 6, .val .null, vU] [(.int (6 : Int32)), (.int (0 : Int32)), (.ref a2)])) rfl (by rw [hml]; rfl) (argsL := [(.ref a2), (.int (0 : Int32)), (.int (6 : Int32))]) (rest := []) rfl (lenOf pd_4 rfl) rfl (by show 2 * 0 + _ ≤ _; exact Nat.le_of_eq rfl) (hb hby d_jdk_42_method_149_code_36) (by decide) (by decide)
  obtain ⟨r_201, kr_201, rfl, Nq_201, K_201, u0_201, u1_201⟩ := hQ_201
  have N_201 := Fr.app N0 Nq_201
  have le_201 : h0.size ≤ T_201.heap.size := K_201.1
  have KP_201 := KP0.trans K_201 all0
  have O_201 := hO.keep K_201 all0
  have sz_r_201 : h0.size ≤ r_201 := Nat.le_trans (Nat.le_refl _) u0_201
  have g_r_201 : n0 ≤ r_201 := Nat.le_trans Z0 sz_r_201
  refine Go.step st_201 ?_
  show Go p e below _ (T_201.setTop (mkF m 39 #[vR a1, vR a2, vI 0, vI 6, .val .null, vU] [(.ref r_201)]))
  refine Go.step (fun _ k => XS.astore X_201.here hx rfl (hb hby d_jdk_42_method_149_code_39) rfl rfl (l' := #[vR a1, vR a2, vI 0, vI 6, .val .null, vR r_201]) rfl k) ?_
  show Go p e below _ (T_201.setTop (mkF m 41 #[vR a1, vR a2, vI 0, vI 6, .val .null, vR r_201] []))
  refine Go.step (fun _ k => XS.aloadN X_201.here hx rfl (hb hby d_jdk_42_method_149_code_41) rfl rfl k) ?_
  refine Go.step (fun _ k => XS.aload X_201.here hx rfl (hb hby d_jdk_42_method_149_code_42) rfl rfl k) ?_
  refine Go.step (fun _ k => XS.iloadN X_201.here hx rfl (hb hby d_jdk_42_method_149_code_44) rfl  k) ?_
  show Go p e below _ (T_201.setTop (mkF m 45 #[vR a1, vR a2, vI 0, vI 6, .val .null, vR r_201] [(.int (6 : Int32)), (.ref r_201), (.ref a1)]))
  obtain ⟨v_202, T_202, L_202, X_202, hQ_202, st_202⟩ := goS X_201 hx hZ (y := Y_7) hown (wd_48 hw) (wd_49 hw) (wd_23 hw) (wd_50 hw) (by decide) (backOf (W := 1) (rm_cfU l Z a0 hw zc vfm (r_201) (kr_201) c0 c1 c2 c3 c4 c5 T_201.heap n0 (Nat.le_trans Z0 KP_201.1) u1_201 hSt O_201) hZ (wd_50 hw) (wd_23 hw) (by decide) (by decide)) rfl (g := (mkF m 45 #[vR a1, vR a2, vI 0, vI 6, .val .null, vR r_201] [(.int (6 : Int32)), (.ref r_201), (.ref a1)])) rfl (by rw [hml]; rfl) (argsL := [(.ref r_201), (.int (6 : Int32))]) (rest := [(.ref a1)]) rfl (lenOf pd_6 rfl) rfl (by show 2 * 0 + _ ≤ _; exact Nat.le_of_eq rfl) (hb hby d_jdk_42_method_149_code_45) (by decide) (by decide)
  obtain ⟨rfl, Nq_202, e_202⟩ := hQ_202
  have N_202 := Fr.app N_201 Nq_202
  refine Go.step st_202 ?_
  show Go p e below _ (T_202.setTop (mkF m 48 #[vR a1, vR a2, vI 0, vI 6, .val .null, vR r_201] [(.int (1 : Int32)), (.ref a1)]))
  have f203 : Exa Z T_201.heap a1 "java/lang/String" := (E_a1.keep K_201)
  have f204 : Fld Z T_201.heap a1 "java/lang/String" "coder" "B" (.int (0 : Int32)) := (F_a1c.keep K_201 nin0)
  obtain ⟨T_205, h_205, X_205, e_205, W_205, st_205⟩ := putFN X_202 hx hZ hown (wd_51 hw) Via.refl e_202 f204 f203 (Or.inr ⟨(wd_52 hw), rfl, hnm⟩) (wd_8 hw) (ty := .byte) (v' := (.int (1 : Int32))) pf_0 rfl (by decide) (g := (mkF m 48 #[vR a1, vR a2, vI 0, vI 6, .val .null, vR r_201] [(.int (1 : Int32)), (.ref a1)])) rfl rfl (hb hby d_jdk_42_method_149_code_48)
  refine Go.step st_205 ?_
  have N_205 := Fr.snoc X_205 N_202 g_a1
  have le_205 : T_201.heap.size ≤ h_205.size := Nat.le_of_eq W_205.size.symm
  have KP_205 := KP_201.wr W_205 (Or.inl (List.mem_of_getElem? (i := 0) rfl))
  have O_205 := O_201.wr W_205 g_a1
  have F_205 : Fld Z h_205 a1 "java/lang/String" "coder" "B" (.int (1 : Int32)) := f204.same W_205
  show Go p e below _ (T_205.setTop (mkF m 51 #[vR a1, vR a2, vI 0, vI 6, .val .null, vR r_201] []))
  refine Go.step (fun _ k => XS.aloadN X_205.here hx rfl (hb hby d_jdk_42_method_149_code_51) rfl rfl k) ?_
  refine Go.step (fun _ k => XS.aload X_205.here hx rfl (hb hby d_jdk_42_method_149_code_52) rfl rfl k) ?_
  show Go p e below _ (T_205.setTop (mkF m 54 #[vR a1, vR a2, vI 0, vI 6, .val .null, vR r_201] [(.ref r_201), (.ref a1)]))
  have f206 : Exa Z h_205 a1 "java/lang/String" := (f203.wr W_205)
  have f207 : Fld Z h_205 a1 "java/lang/String" "value" "[B" .null := ((F_a1v.keep K_201 nin0).other W_205 (Or.inr (sn_0 hw)))
  obtain ⟨T_208, h_208, X_208, e_208, W_208, st_208⟩ := putF X_205 hx hZ hown (host := "") (Or.inl (wd_53 hw)) Via.refl e_205 f207 f206 (Or.inr ⟨(wd_54 hw), rfl, hnm⟩) (wd_8 hw) (ty := (.array .byte)) pf_1 rfl rfl (g := (mkF m 54 #[vR a1, vR a2, vI 0, vI 6, .val .null, vR r_201] [(.ref r_201), (.ref a1)])) rfl rfl (hb hby d_jdk_42_method_149_code_54)
  refine Go.step st_208 ?_
  have N_208 := Fr.snoc X_208 N_205 g_a1
  have le_208 : h_205.size ≤ h_208.size := Nat.le_of_eq W_208.size.symm
  have KP_208 := KP_205.wr W_208 (Or.inl (List.mem_of_getElem? (i := 0) rfl))
  have O_208 := O_205.wr W_208 g_a1
  have F_208 : Fld Z h_208 a1 "java/lang/String" "value" "[B" (.ref r_201) := f207.same W_208
  show Go p e below _ (T_208.setTop (mkF m 57 #[vR a1, vR a2, vI 0, vI 6, .val .null, vR r_201] []))
  have f209 : Exa Z h_208 a1 "java/lang/String" := (f206.wr W_208)
  have f210 : Fld Z h_208 a1 "java/lang/String" "coder" "B" (.int (1 : Int32)) := (F_205.other W_208 (Or.inr (sn_1 hw)))
  have f211 : Arv Z h_208 r_201 kr_201 .byte (12 : Int32) [(.int (lo8 c0)), (.int (hi8 c0)), (.int (lo8 c1)), (.int (hi8 c1)), (.int (lo8 c2)), (.int (hi8 c2)), (.int (lo8 c3)), (.int (hi8 c3)), (.int (lo8 c4)), (.int (hi8 c4)), (.int (lo8 c5)), (.int (hi8 c5))] (.int (0 : Int32)) := ((u1_201.other W_205 (Ne.symm (Nat.ne_of_lt (Nat.lt_of_lt_of_le E_a1.lt (Nat.le_trans (Nat.le_refl _) u0_201))))).other W_208 (Ne.symm (Nat.ne_of_lt (Nat.lt_of_lt_of_le E_a1.lt (Nat.le_trans (Nat.le_refl _) u0_201)))))
  exact Go.ret0 X_208 hx hlk hret (hb hby d_jdk_42_method_149_code_57) (by decide) (by decide) (by rw [e_208]; exact ⟨r_201, kr_201, rfl, N_208, KP_208, f209, F_208, f210, f211⟩)
--@E
--@C init1U
def Q_init1U (Z : State) (zc : Int32) (vfm : Value) (a1 : Addr) (a2 : Addr) (k2 : ClassId) (c0 : Int32) (c1 : Int32) (c2 : Int32) (c3 : Int32) (c4 : Int32) (c5 : Int32) (h0 : Heap) (n0 : Nat) (v : Option Value) (h : Heap) (L : List Loc) : Prop := ∃ (t : Addr) (kb : ClassId), v = none ∧ Fr n0 L ∧ Keep h0 h [a1] ∧ Exa Z h a1 "java/lang/String" ∧ Fld Z h a1 "java/lang/String" "value" "[B" (.ref t) ∧ Fld Z h a1 "java/lang/String" "coder" "B" (.int (1 : Int32)) ∧ Arv Z h t kb .byte (12 : Int32) [(.int (lo8 c0)), (.int (hi8 c0)), (.int (lo8 c1)), (.int (hi8 c1)), (.int (lo8 c2)), (.int (hi8 c2)), (.int (lo8 c3)), (.int (hi8 c3)), (.int (lo8 c4)), (.int (hi8 c4)), (.int (lo8 c5)), (.int (hi8 c5))] (.int (0 : Int32))
set_option maxRecDepth 65536 in
set_option maxHeartbeats 40000000 in
theorem rm_init1U (l : Launch) (Z : State) (a0 : Array Value) (hw : ∀ d ∈ tables_1, d.before a0 Z = true) (zc : Int32) (vfm : Value) (a1 : Addr) (a2 : Addr) (k2 : ClassId) (c0 : Int32) (c1 : Int32) (c2 : Int32) (c3 : Int32) (c4 : Int32) (c5 : Int32) (h0 : Heap) (n0 : Nat) (Z0 : n0 ≤ h0.size) (E_a1 : Exa Z h0 a1 "java/lang/String") (F_a1v : Fld Z h0 a1 "java/lang/String" "value" "[B" .null) (F_a1c : Fld Z h0 a1 "java/lang/String" "coder" "B" (.int (0 : Int32))) (g_a1 : n0 ≤ a1) (A_a2 : Arv Z h0 a2 k2 .char (6 : Int32) [(.int c0), (.int c1), (.int c2), (.int c3), (.int c4), (.int c5)] (.int (0 : Int32))) (hU : (¬ (¬ (255 : Int32) < c0 ∧ ¬ (255 : Int32) < c1 ∧ ¬ (255 : Int32) < c2 ∧ ¬ (255 : Int32) < c3 ∧ ¬ (255 : Int32) < c4 ∧ ¬ (255 : Int32) < c5))) (h_c0 : (0 ≤ c0.toInt ∧ c0.toInt ≤ 65535)) (h_c1 : (0 ≤ c1.toInt ∧ c1.toInt ≤ 65535)) (h_c2 : (0 ≤ c2.toInt ∧ c2.toInt ≤ 65535)) (h_c3 : (0 ≤ c3.toInt ∧ c3.toInt ≤ 65535)) (h_c4 : (0 ≤ c4.toInt ∧ c4.toInt ≤ 65535)) (h_c5 : (0 ≤ c5.toInt ∧ c5.toInt ≤ 65535)) (hSt : St Z zc vfm) (hO : Old Z n0 h0) :
    CN l Z ({ cls := "java/lang/String", name := "<init>", desc := "([C)V" } : Jvm.MethodName) [(Jvm.Cond.code ({ cls := "java/lang/String", name := "<init>", desc := "([C)V" } : Jvm.MethodName) jdk_42_method_3_code (2 : Nat) (Option.none : Option Jvm.ClassFile.FieldType))] ({ frames := 5, cells := 2, slots := 18, locals := 74 } : Room) #[(.ref a1), (.ref a2)] h0 (Q_init1U Z zc vfm a1 a2 k2 c0 c1 c2 c3 c4 c5 h0 n0) := by
  refine CN.of (L0 := #[vR a1, vR a2]) (plainFor_of_name pn_2) (fun m => by first | (simp [entryFrame, mkF, argsToLocals, Value.category]; done) | rfl) ?_
  intro p e s m below meth c s₁ hx hby hml hret hlk hZ hown hnm X0 e0
  have N0 := Fr.nil n0
  have KP0 := Keep.refl h0 [a1]
  have hSt_ := hSt
  obtain ⟨S_cs, n_cs, S_fm, r_fm, S_ad, S_hi, S_lo⟩ := hSt_
  show Go p e below _ (s₁.setTop (mkF m 0 #[vR a1, vR a2] []))
  refine Go.step (fun _ k => XS.aloadN X0.here hx rfl (hb hby d_jdk_42_method_3_code_0) rfl rfl k) ?_
  refine Go.step (fun _ k => XS.aloadN X0.here hx rfl (hb hby d_jdk_42_method_3_code_1) rfl rfl k) ?_
  refine Go.step (fun _ k => XS.iconst X0.here hx rfl (hb hby d_jdk_42_method_3_code_2) k) ?_
  refine Go.step (fun _ k => XS.aloadN X0.here hx rfl (hb hby d_jdk_42_method_3_code_3) rfl rfl k) ?_
  show Go p e below _ (s₁.setTop (mkF m 4 #[vR a1, vR a2] [(.ref a2), (.int (0 : Int32)), (.ref a2), (.ref a1)]))
  have cp213 := A_a2
  obtain ⟨cl_212, Ar_212, -, Sz_212, Ng_212, -, -⟩ := cp213
  refine Go.step (fun _ k => X0.arraylength hx (by rw [e0]; exact Ar_212.1) (State.isArrayOf_alike hZ.alike Ar_212.2.1) (g := (mkF m 4 #[vR a1, vR a2] [(.ref a2), (.int (0 : Int32)), (.ref a2), (.ref a1)])) rfl rfl (hb hby d_jdk_42_method_3_code_4) _ k) ?_
  rw [len_of Sz_212 Ng_212]
  show Go p e below _ (s₁.setTop (mkF m 5 #[vR a1, vR a2] [(.int (6 : Int32)), (.int (0 : Int32)), (.ref a2), (.ref a1)]))
  refine Go.step (fun _ k => XS.aconstNull X0.here hx rfl (hb hby d_jdk_42_method_3_code_5) k) ?_
  show Go p e below _ (s₁.setTop (mkF m 6 #[vR a1, vR a2] [.null, (.int (6 : Int32)), (.int (0 : Int32)), (.ref a2), (.ref a1)]))
  obtain ⟨v_214, T_214, L_214, X_214, hQ_214, st_214⟩ := goC X0 hx hZ (y := Y_8) hown rfl (wd_13 hw) (wd_14 hw) (wd_16 hw) (by decide) (backOf (W := 0) (rm_init4U l Z a0 hw zc vfm (a1) (a2) (k2) (c0) (c1) (c2) (c3) (c4) (c5) h0 n0 (Nat.le_trans Z0 KP0.1) E_a1 F_a1v F_a1c g_a1 A_a2 hU h_c0 h_c1 h_c2 h_c3 h_c4 h_c5 hSt hO) hZ (wd_16 hw) (wd_9 hw) (by decide) (by decide)) e0 (g := (mkF m 6 #[vR a1, vR a2] [.null, (.int (6 : Int32)), (.int (0 : Int32)), (.ref a2), (.ref a1)])) rfl (by rw [hml]; rfl) (a := a1) (argsL := [(.ref a2), (.int (0 : Int32)), (.int (6 : Int32)), .null]) (rest := []) rfl (lenOf pd_7 rfl) rfl (by show 2 * 0 + _ ≤ _; exact Nat.le_of_eq rfl) (hb hby d_jdk_42_method_3_code_6) (by decide) (by decide)
  obtain ⟨t_214, kb_214, rfl, Nq_214, K_214, u0_214, u1_214, u2_214, u3_214⟩ := hQ_214
  have N_214 := Fr.app N0 Nq_214
  have le_214 : h0.size ≤ T_214.heap.size := K_214.1
  have KP_214 := KP0.trans K_214 (allS (Or.inl (List.mem_of_getElem? (i := 0) rfl)) all0)
  have O_214 := hO.keep K_214 (allS g_a1 all0)
  refine Go.step st_214 ?_
  show Go p e below _ (T_214.setTop (mkF m 9 #[vR a1, vR a2] []))
  exact Go.ret0 X_214 hx hlk hret (hb hby d_jdk_42_method_3_code_9) (by decide) (by decide) (by exact ⟨t_214, kb_214, rfl, N_214, KP_214, u0_214, u1_214, u2_214, u3_214⟩)
--@E
--@C pci
def Q_pci (Z : State) (zc : Int32) (vfm : Value) (i1 : Int32) (h0 : Heap) (n0 : Nat) (v : Option Value) (h : Heap) (L : List Loc) : Prop := v = some (.int i1) ∧ Fr n0 L ∧ h = h0
set_option maxRecDepth 65536 in
set_option maxHeartbeats 40000000 in
theorem rm_pci (l : Launch) (Z : State) (a0 : Array Value) (hw : ∀ d ∈ tables_1, d.before a0 Z = true) (zc : Int32) (vfm : Value) (i1 : Int32) (h0 : Heap) (n0 : Nat) (Z0 : n0 ≤ h0.size) (hi : (0 ≤ i1.toInt ∧ i1.toInt < 6)) (hSt : St Z zc vfm) (hO : Old Z n0 h0) :
    CN l Z ({ cls := "jdk/internal/util/Preconditions", name := "checkIndex", desc := "(IILjava/util/function/BiFunction;)I" } : Jvm.MethodName) [(Jvm.Cond.code ({ cls := "jdk/internal/util/Preconditions", name := "checkIndex", desc := "(IILjava/util/function/BiFunction;)I" } : Jvm.MethodName) jdk_41_method_11_code (3 : Nat) (Option.some Jvm.ClassFile.FieldType.int))] ({ frames := 0, cells := 0, slots := 0, locals := 0 } : Room) #[(.int i1), (.int (6 : Int32)), vfm] h0 (Q_pci Z zc vfm i1 h0 n0) := by
  refine CN.of (L0 := #[vI i1, vI 6, .val vfm]) (plainFor_of_name pn_3) (fun m => by rcases ref_cases hSt.2.2.2.1 with rfl | ⟨_, rfl⟩ <;> first | (simp [entryFrame, mkF, argsToLocals, Value.category]; done) | rfl) ?_
  intro p e s m below meth c s₁ hx hby hml hret hlk hZ hown hnm X0 e0
  have N0 := Fr.nil n0
  have KP0 := Keep.refl h0 []
  have hSt_ := hSt
  obtain ⟨S_cs, n_cs, S_fm, r_fm, S_ad, S_hi, S_lo⟩ := hSt_
  show Go p e below _ (s₁.setTop (mkF m 0 #[vI i1, vI 6, .val vfm] []))
  refine Go.step (fun _ k => XS.iloadN X0.here hx rfl (hb hby d_jdk_41_method_11_code_0) rfl  k) ?_
  show Go p e below _ (s₁.setTop (mkF m 1 #[vI i1, vI 6, .val vfm] [(.int i1)]))
  refine Go.step (fun _ k => XS.ifNo X0.here hx rfl (hb hby d_jdk_41_method_11_code_1) rfl ((if0 _ _).trans (flt ((i6 hi).1 : ¬ (i1 < (0 : Int32)))).1) k) ?_
  show Go p e below _ (s₁.setTop (mkF m 4 #[vI i1, vI 6, .val vfm] []))
  refine Go.step (fun _ k => XS.iloadN X0.here hx rfl (hb hby d_jdk_41_method_11_code_4) rfl  k) ?_
  refine Go.step (fun _ k => XS.iloadN X0.here hx rfl (hb hby d_jdk_41_method_11_code_5) rfl  k) ?_
  show Go p e below _ (s₁.setTop (mkF m 6 #[vI i1, vI 6, .val vfm] [(.int (6 : Int32)), (.int i1)]))
  refine Go.step (fun _ k => XS.icmpYes X0.here hx rfl (pc0 := 6) (pc' := 16) rfl (hb hby d_jdk_41_method_11_code_6) rfl (tlt ((i6 hi).2 : i1 < (6 : Int32))).1 (by decide) (by decide) k) ?_
  show Go p e below _ (s₁.setTop (mkF m 16 #[vI i1, vI 6, .val vfm] []))
  refine Go.step (fun _ k => XS.iloadN X0.here hx rfl (hb hby d_jdk_41_method_11_code_16) rfl  k) ?_
  show Go p e below _ (s₁.setTop (mkF m 17 #[vI i1, vI 6, .val vfm] [(.int i1)]))
  exact Go.retV X0 hx hlk hret rfl (Or.inl ⟨rfl, Or.inl rfl, _, rfl⟩) (hb hby d_jdk_41_method_11_code_17) (by decide) (by decide) (by rw [e0]; exact ⟨rfl, N0, rfl⟩)
--@E
--@C sci
def Q_sci (Z : State) (zc : Int32) (vfm : Value) (i1 : Int32) (h0 : Heap) (n0 : Nat) (v : Option Value) (h : Heap) (L : List Loc) : Prop := v = none ∧ Fr n0 L ∧ h = h0
set_option maxRecDepth 65536 in
set_option maxHeartbeats 40000000 in
theorem rm_sci (l : Launch) (Z : State) (a0 : Array Value) (hw : ∀ d ∈ tables_1, d.before a0 Z = true) (zc : Int32) (vfm : Value) (i1 : Int32) (h0 : Heap) (n0 : Nat) (Z0 : n0 ≤ h0.size) (hi : (0 ≤ i1.toInt ∧ i1.toInt < 6)) (hSt : St Z zc vfm) (hO : Old Z n0 h0) :
    CN l Z ({ cls := "java/lang/String", name := "checkIndex", desc := "(II)V" } : Jvm.MethodName) [(Jvm.Cond.code ({ cls := "java/lang/String", name := "checkIndex", desc := "(II)V" } : Jvm.MethodName) jdk_42_method_155_code (2 : Nat) (Option.none : Option Jvm.ClassFile.FieldType))] ({ frames := 1, cells := 0, slots := 0, locals := 14 } : Room) #[(.int i1), (.int (6 : Int32))] h0 (Q_sci Z zc vfm i1 h0 n0) := by
  refine CN.of (L0 := #[vI i1, vI 6]) (plainFor_of_name pn_2) (fun m => by first | (simp [entryFrame, mkF, argsToLocals, Value.category]; done) | rfl) ?_
  intro p e s m below meth c s₁ hx hby hml hret hlk hZ hown hnm X0 e0
  have N0 := Fr.nil n0
  have KP0 := Keep.refl h0 []
  have hSt_ := hSt
  obtain ⟨S_cs, n_cs, S_fm, r_fm, S_ad, S_hi, S_lo⟩ := hSt_
  have h_vfm := r_fm
  show Go p e below _ (s₁.setTop (mkF m 0 #[vI i1, vI 6] []))
  refine Go.step (fun _ k => XS.iloadN X0.here hx rfl (hb hby d_jdk_42_method_155_code_0) rfl  k) ?_
  refine Go.step (fun _ k => XS.iloadN X0.here hx rfl (hb hby d_jdk_42_method_155_code_1) rfl  k) ?_
  show Go p e below _ (s₁.setTop (mkF m 2 #[vI i1, vI 6] [(.int (6 : Int32)), (.int i1)]))
  obtain ⟨T_215, X_215, e_215, st_215⟩ := getS2 X0 hx hZ hown (host := "") (Or.inl (wd_81 hw)) Via.refl e0 (S_fm.ext hO.2) (g := (mkF m 2 #[vI i1, vI 6] [(.int (6 : Int32)), (.int i1)])) rfl (hb hby d_jdk_42_method_155_code_2)
  refine Go.step st_215 ?_
  show Go p e below _ (T_215.setTop (mkF m 5 #[vI i1, vI 6] [vfm, (.int (6 : Int32)), (.int i1)]))
  obtain ⟨v_216, T_216, L_216, X_216, hQ_216, st_216⟩ := goS X_215 hx hZ (y := Y_9) hown (wd_83 hw) (wd_84 hw) (wd_82 hw) (wd_85 hw) (by decide) (backOf (W := 0) (rm_pci l Z a0 hw zc (vfm) (i1) h0 n0 (Nat.le_trans Z0 KP0.1) hi hSt hO) hZ (wd_85 hw) (wd_82 hw) (by decide) (by decide)) e_215 (g := (mkF m 5 #[vI i1, vI 6] [vfm, (.int (6 : Int32)), (.int i1)])) rfl (by rw [hml]; rfl) (argsL := [(.int i1), (.int (6 : Int32)), vfm]) (rest := []) rfl (lenOf pd_8 rfl) rfl (by show 2 * 0 + _ ≤ _; exact Nat.le_of_eq rfl) (hb hby d_jdk_42_method_155_code_5) (by decide) (by decide)
  obtain ⟨rfl, Nq_216, e_216⟩ := hQ_216
  have N_216 := Fr.app N0 Nq_216
  refine Go.step st_216 ?_
  show Go p e below _ (T_216.setTop (mkF m 8 #[vI i1, vI 6] [(.int i1)]))
  refine Go.step (fun _ k => XS.pop X_216.here hx rfl (hb hby d_jdk_42_method_155_code_8) rfl rfl k) ?_
  show Go p e below _ (T_216.setTop (mkF m 9 #[vI i1, vI 6] []))
  exact Go.ret0 X_216 hx hlk hret (hb hby d_jdk_42_method_155_code_9) (by decide) (by decide) (by rw [e_216]; exact ⟨rfl, N_216, rfl⟩)
--@E
--@C ulen
def Q_ulen (Z : State) (zc : Int32) (vfm : Value) (a1 : Addr) (k1 : ClassId) (c0 : Int32) (c1 : Int32) (c2 : Int32) (c3 : Int32) (c4 : Int32) (c5 : Int32) (h0 : Heap) (n0 : Nat) (v : Option Value) (h : Heap) (L : List Loc) : Prop := v = some (.int (6 : Int32)) ∧ Fr n0 L ∧ h = h0
set_option maxRecDepth 65536 in
set_option maxHeartbeats 40000000 in
theorem rm_ulen (l : Launch) (Z : State) (a0 : Array Value) (hw : ∀ d ∈ tables_1, d.before a0 Z = true) (zc : Int32) (vfm : Value) (a1 : Addr) (k1 : ClassId) (c0 : Int32) (c1 : Int32) (c2 : Int32) (c3 : Int32) (c4 : Int32) (c5 : Int32) (h0 : Heap) (n0 : Nat) (Z0 : n0 ≤ h0.size) (A_a1 : Arv Z h0 a1 k1 .byte (12 : Int32) [(.int (lo8 c0)), (.int (hi8 c0)), (.int (lo8 c1)), (.int (hi8 c1)), (.int (lo8 c2)), (.int (hi8 c2)), (.int (lo8 c3)), (.int (hi8 c3)), (.int (lo8 c4)), (.int (hi8 c4)), (.int (lo8 c5)), (.int (hi8 c5))] (.int (0 : Int32))) (hSt : St Z zc vfm) (hO : Old Z n0 h0) :
    CN l Z ({ cls := "java/lang/StringUTF16", name := "length", desc := "([B)I" } : Jvm.MethodName) [(Jvm.Cond.code ({ cls := "java/lang/StringUTF16", name := "length", desc := "([B)I" } : Jvm.MethodName) jdk_52_method_6_code (1 : Nat) (Option.some Jvm.ClassFile.FieldType.int))] ({ frames := 0, cells := 0, slots := 0, locals := 0 } : Room) #[(.ref a1)] h0 (Q_ulen Z zc vfm a1 k1 c0 c1 c2 c3 c4 c5 h0 n0) := by
  refine CN.of (L0 := #[vR a1]) (plainFor_of_name pn_1) (fun m => by first | (simp [entryFrame, mkF, argsToLocals, Value.category]; done) | rfl) ?_
  intro p e s m below meth c s₁ hx hby hml hret hlk hZ hown hnm X0 e0
  have N0 := Fr.nil n0
  have KP0 := Keep.refl h0 []
  have hSt_ := hSt
  obtain ⟨S_cs, n_cs, S_fm, r_fm, S_ad, S_hi, S_lo⟩ := hSt_
  show Go p e below _ (s₁.setTop (mkF m 0 #[vR a1] []))
  refine Go.step (fun _ k => XS.aloadN X0.here hx rfl (hb hby d_jdk_52_method_6_code_0) rfl rfl k) ?_
  show Go p e below _ (s₁.setTop (mkF m 1 #[vR a1] [(.ref a1)]))
  have cp218 := A_a1
  obtain ⟨cl_217, Ar_217, -, Sz_217, Ng_217, -, -⟩ := cp218
  refine Go.step (fun _ k => X0.arraylength hx (by rw [e0]; exact Ar_217.1) (State.isArrayOf_alike hZ.alike Ar_217.2.1) (g := (mkF m 1 #[vR a1] [(.ref a1)])) rfl rfl (hb hby d_jdk_52_method_6_code_1) _ k) ?_
  rw [len_of Sz_217 Ng_217]
  show Go p e below _ (s₁.setTop (mkF m 2 #[vR a1] [(.int (12 : Int32))]))
  refine Go.step (fun _ k => XS.iconst X0.here hx rfl (hb hby d_jdk_52_method_6_code_2) k) ?_
  show Go p e below _ (s₁.setTop (mkF m 3 #[vR a1] [(.int (1 : Int32)), (.int (12 : Int32))]))
  refine Go.step (fun _ k => XS.ishr X0.here hx rfl (hb hby d_jdk_52_method_6_code_3) rfl k) ?_
  show Go p e below _ (s₁.setTop (mkF m 4 #[vR a1] [(.int ((12 : Int32) >>> ((1 : Int32) &&& 31)))]))
  refine own_top (congrArg Value.int (show ((12 : Int32) >>> ((1 : Int32) &&& 31)) = (6 : Int32) from by decide)) ?_
  show Go p e below _ (s₁.setTop (mkF m 4 #[vR a1] [(.int (6 : Int32))]))
  exact Go.retV X0 hx hlk hret rfl (Or.inl ⟨rfl, Or.inl rfl, _, rfl⟩) (hb hby d_jdk_52_method_6_code_4) (by decide) (by decide) (by rw [e0]; exact ⟨rfl, N0, rfl⟩)
--@E
--@C uci
def Q_uci (Z : State) (zc : Int32) (vfm : Value) (a1 : Addr) (k1 : ClassId) (c0 : Int32) (c1 : Int32) (c2 : Int32) (c3 : Int32) (c4 : Int32) (c5 : Int32) (i1 : Int32) (h0 : Heap) (n0 : Nat) (v : Option Value) (h : Heap) (L : List Loc) : Prop := v = none ∧ Fr n0 L ∧ h = h0
set_option maxRecDepth 65536 in
set_option maxHeartbeats 40000000 in
theorem rm_uci (l : Launch) (Z : State) (a0 : Array Value) (hw : ∀ d ∈ tables_1, d.before a0 Z = true) (zc : Int32) (vfm : Value) (a1 : Addr) (k1 : ClassId) (c0 : Int32) (c1 : Int32) (c2 : Int32) (c3 : Int32) (c4 : Int32) (c5 : Int32) (i1 : Int32) (h0 : Heap) (n0 : Nat) (Z0 : n0 ≤ h0.size) (A_a1 : Arv Z h0 a1 k1 .byte (12 : Int32) [(.int (lo8 c0)), (.int (hi8 c0)), (.int (lo8 c1)), (.int (hi8 c1)), (.int (lo8 c2)), (.int (hi8 c2)), (.int (lo8 c3)), (.int (hi8 c3)), (.int (lo8 c4)), (.int (hi8 c4)), (.int (lo8 c5)), (.int (hi8 c5))] (.int (0 : Int32))) (hi : (0 ≤ i1.toInt ∧ i1.toInt < 6)) (hSt : St Z zc vfm) (hO : Old Z n0 h0) :
    CN l Z ({ cls := "java/lang/StringUTF16", name := "checkIndex", desc := "(I[B)V" } : Jvm.MethodName) [(Jvm.Cond.code ({ cls := "java/lang/StringUTF16", name := "checkIndex", desc := "(I[B)V" } : Jvm.MethodName) jdk_52_method_91_code (2 : Nat) (Option.none : Option Jvm.ClassFile.FieldType))] ({ frames := 2, cells := 0, slots := 0, locals := 27 } : Room) #[(.int i1), (.ref a1)] h0 (Q_uci Z zc vfm a1 k1 c0 c1 c2 c3 c4 c5 i1 h0 n0) := by
  refine CN.of (L0 := #[vI i1, vR a1]) (plainFor_of_name pn_1) (fun m => by first | (simp [entryFrame, mkF, argsToLocals, Value.category]; done) | rfl) ?_
  intro p e s m below meth c s₁ hx hby hml hret hlk hZ hown hnm X0 e0
  have N0 := Fr.nil n0
  have KP0 := Keep.refl h0 []
  have hSt_ := hSt
  obtain ⟨S_cs, n_cs, S_fm, r_fm, S_ad, S_hi, S_lo⟩ := hSt_
  show Go p e below _ (s₁.setTop (mkF m 0 #[vI i1, vR a1] []))
  refine Go.step (fun _ k => XS.iloadN X0.here hx rfl (hb hby d_jdk_52_method_91_code_0) rfl  k) ?_
  refine Go.step (fun _ k => XS.aloadN X0.here hx rfl (hb hby d_jdk_52_method_91_code_1) rfl rfl k) ?_
  show Go p e below _ (s₁.setTop (mkF m 2 #[vI i1, vR a1] [(.ref a1), (.int i1)]))
  obtain ⟨v_219, T_219, L_219, X_219, hQ_219, st_219⟩ := goS X0 hx hZ (y := Y_10) hown (wd_75 hw) (wd_76 hw) (wd_23 hw) (wd_77 hw) (by decide) (backOf (W := 1) (rm_ulen l Z a0 hw zc vfm (a1) (k1) c0 c1 c2 c3 c4 c5 h0 n0 (Nat.le_trans Z0 KP0.1) A_a1 hSt hO) hZ (wd_77 hw) (wd_23 hw) (by decide) (by decide)) e0 (g := (mkF m 2 #[vI i1, vR a1] [(.ref a1), (.int i1)])) rfl (by rw [hml]; rfl) (argsL := [(.ref a1)]) (rest := [(.int i1)]) rfl (lenOf pd_9 rfl) rfl (by show 2 * 0 + _ ≤ _; exact Nat.le_of_eq rfl) (hb hby d_jdk_52_method_91_code_2) (by decide) (by decide)
  obtain ⟨rfl, Nq_219, e_219⟩ := hQ_219
  have N_219 := Fr.app N0 Nq_219
  refine Go.step st_219 ?_
  show Go p e below _ (T_219.setTop (mkF m 5 #[vI i1, vR a1] [(.int (6 : Int32)), (.int i1)]))
  obtain ⟨v_220, T_220, L_220, X_220, hQ_220, st_220⟩ := goS X_219 hx hZ (y := Y_11) hown (wd_78 hw) (wd_79 hw) (wd_9 hw) (wd_80 hw) (by decide) (backOf (W := 0) (rm_sci l Z a0 hw zc vfm (i1) h0 n0 (Nat.le_trans Z0 KP0.1) hi hSt hO) hZ (wd_80 hw) (wd_9 hw) (by decide) (by decide)) e_219 (g := (mkF m 5 #[vI i1, vR a1] [(.int (6 : Int32)), (.int i1)])) rfl (by rw [hml]; rfl) (argsL := [(.int i1), (.int (6 : Int32))]) (rest := []) rfl (lenOf pd_10 rfl) rfl (by show 2 * 0 + _ ≤ _; exact Nat.le_of_eq rfl) (hb hby d_jdk_52_method_91_code_5) (by decide) (by decide)
  obtain ⟨rfl, Nq_220, e_220⟩ := hQ_220
  have N_220 := Fr.app N_219 Nq_220
  refine Go.step st_220 ?_
  show Go p e below _ (T_220.setTop (mkF m 8 #[vI i1, vR a1] []))
  exact Go.ret0 X_220 hx hlk hret (hb hby d_jdk_52_method_91_code_8) (by decide) (by decide) (by rw [e_220]; exact ⟨rfl, N_220, rfl⟩)
--@E
--@C uca
def Q_uca (Z : State) (zc : Int32) (vfm : Value) (a1 : Addr) (k1 : ClassId) (c0 : Int32) (c1 : Int32) (c2 : Int32) (c3 : Int32) (c4 : Int32) (c5 : Int32) (i1 : Int32) (h0 : Heap) (n0 : Nat) (v : Option Value) (h : Heap) (L : List Loc) : Prop := v = some (.int (sel c0 c1 c2 c3 c4 c5 i1)) ∧ Fr n0 L ∧ h = h0
set_option maxRecDepth 65536 in
set_option maxHeartbeats 40000000 in
theorem rm_uca (l : Launch) (Z : State) (a0 : Array Value) (hw : ∀ d ∈ tables_1, d.before a0 Z = true) (zc : Int32) (vfm : Value) (a1 : Addr) (k1 : ClassId) (c0 : Int32) (c1 : Int32) (c2 : Int32) (c3 : Int32) (c4 : Int32) (c5 : Int32) (i1 : Int32) (h0 : Heap) (n0 : Nat) (Z0 : n0 ≤ h0.size) (A_a1 : Arv Z h0 a1 k1 .byte (12 : Int32) [(.int (lo8 c0)), (.int (hi8 c0)), (.int (lo8 c1)), (.int (hi8 c1)), (.int (lo8 c2)), (.int (hi8 c2)), (.int (lo8 c3)), (.int (hi8 c3)), (.int (lo8 c4)), (.int (hi8 c4)), (.int (lo8 c5)), (.int (hi8 c5))] (.int (0 : Int32))) (hi : (0 ≤ i1.toInt ∧ i1.toInt < 6)) (h_c0 : (0 ≤ c0.toInt ∧ c0.toInt ≤ 65535)) (h_c1 : (0 ≤ c1.toInt ∧ c1.toInt ≤ 65535)) (h_c2 : (0 ≤ c2.toInt ∧ c2.toInt ≤ 65535)) (h_c3 : (0 ≤ c3.toInt ∧ c3.toInt ≤ 65535)) (h_c4 : (0 ≤ c4.toInt ∧ c4.toInt ≤ 65535)) (h_c5 : (0 ≤ c5.toInt ∧ c5.toInt ≤ 65535)) (hSt : St Z zc vfm) (hO : Old Z n0 h0) :
    CN l Z ({ cls := "java/lang/StringUTF16", name := "charAt", desc := "([BI)C" } : Jvm.MethodName) [(Jvm.Cond.code ({ cls := "java/lang/StringUTF16", name := "charAt", desc := "([BI)C" } : Jvm.MethodName) jdk_52_method_83_code (2 : Nat) (Option.some Jvm.ClassFile.FieldType.char))] ({ frames := 3, cells := 0, slots := 0, locals := 40 } : Room) #[(.ref a1), (.int i1)] h0 (Q_uca Z zc vfm a1 k1 c0 c1 c2 c3 c4 c5 i1 h0 n0) := by
  refine CN.of (L0 := #[vR a1, vI i1]) (plainFor_of_name pn_1) (fun m => by first | (simp [entryFrame, mkF, argsToLocals, Value.category]; done) | rfl) ?_
  intro p e s m below meth c s₁ hx hby hml hret hlk hZ hown hnm X0 e0
  have N0 := Fr.nil n0
  have KP0 := Keep.refl h0 []
  have hSt_ := hSt
  obtain ⟨S_cs, n_cs, S_fm, r_fm, S_ad, S_hi, S_lo⟩ := hSt_
  show Go p e below _ (s₁.setTop (mkF m 0 #[vR a1, vI i1] []))
  refine Go.step (fun _ k => XS.iloadN X0.here hx rfl (hb hby d_jdk_52_method_83_code_0) rfl  k) ?_
  refine Go.step (fun _ k => XS.aloadN X0.here hx rfl (hb hby d_jdk_52_method_83_code_1) rfl rfl k) ?_
  show Go p e below _ (s₁.setTop (mkF m 2 #[vR a1, vI i1] [(.ref a1), (.int i1)]))
  obtain ⟨v_221, T_221, L_221, X_221, hQ_221, st_221⟩ := goS X0 hx hZ (y := Y_12) hown (wd_72 hw) (wd_73 hw) (wd_23 hw) (wd_74 hw) (by decide) (backOf (W := 0) (rm_uci l Z a0 hw zc vfm (a1) (k1) c0 c1 c2 c3 c4 c5 (i1) h0 n0 (Nat.le_trans Z0 KP0.1) A_a1 hi hSt hO) hZ (wd_74 hw) (wd_23 hw) (by decide) (by decide)) e0 (g := (mkF m 2 #[vR a1, vI i1] [(.ref a1), (.int i1)])) rfl (by rw [hml]; rfl) (argsL := [(.int i1), (.ref a1)]) (rest := []) rfl (lenOf pd_11 rfl) rfl (by show 2 * 0 + _ ≤ _; exact Nat.le_of_eq rfl) (hb hby d_jdk_52_method_83_code_2) (by decide) (by decide)
  obtain ⟨rfl, Nq_221, e_221⟩ := hQ_221
  have N_221 := Fr.app N0 Nq_221
  refine Go.step st_221 ?_
  show Go p e below _ (T_221.setTop (mkF m 5 #[vR a1, vI i1] []))
  refine Go.step (fun _ k => XS.aloadN X_221.here hx rfl (hb hby d_jdk_52_method_83_code_5) rfl rfl k) ?_
  refine Go.step (fun _ k => XS.iloadN X_221.here hx rfl (hb hby d_jdk_52_method_83_code_6) rfl  k) ?_
  show Go p e below _ (T_221.setTop (mkF m 7 #[vR a1, vI i1] [(.int i1), (.ref a1)]))
  obtain ⟨v_222, T_222, L_222, X_222, hQ_222, st_222⟩ := goS X_221 hx hZ (y := Y_5) hown (wd_45 hw) (wd_46 hw) (wd_23 hw) (wd_47 hw) (by decide) (backOf (W := 0) (rm_getc l Z a0 hw zc vfm (a1) (k1) c0 c1 c2 c3 c4 c5 (i1) h0 n0 (Nat.le_trans Z0 KP0.1) A_a1 hi h_c0 h_c1 h_c2 h_c3 h_c4 h_c5 hSt hO) hZ (wd_47 hw) (wd_23 hw) (by decide) (by decide)) e_221 (g := (mkF m 7 #[vR a1, vI i1] [(.int i1), (.ref a1)])) rfl (by rw [hml]; rfl) (argsL := [(.ref a1), (.int i1)]) (rest := []) rfl (lenOf pd_5 rfl) rfl (by show 2 * 0 + _ ≤ _; exact Nat.le_of_eq rfl) (hb hby d_jdk_52_method_83_code_7) (by decide) (by decide)
  obtain ⟨rfl, Nq_222, e_222⟩ := hQ_222
  have N_222 := Fr.app N_221 Nq_222
  refine Go.step st_222 ?_
  show Go p e below _ (T_222.setTop (mkF m 10 #[vR a1, vI i1] [(.int (sel c0 c1 c2 c3 c4 c5 i1))]))
  exact Go.retV X_222 hx hlk hret (congrArg Value.int (nar_u (sel_rng h_c0 h_c1 h_c2 h_c3 h_c4 h_c5 i1))) (Or.inl ⟨rfl, Or.inr (Or.inr (Or.inr (Or.inl rfl))), _, rfl⟩) (hb hby d_jdk_52_method_83_code_10) (by decide) (by decide) (by rw [e_222]; exact ⟨rfl, N_222, rfl⟩)
--@E
--@C lca
def Q_lca (Z : State) (zc : Int32) (vfm : Value) (a1 : Addr) (k1 : ClassId) (c0 : Int32) (c1 : Int32) (c2 : Int32) (c3 : Int32) (c4 : Int32) (c5 : Int32) (i1 : Int32) (h0 : Heap) (n0 : Nat) (v : Option Value) (h : Heap) (L : List Loc) : Prop := v = some (.int (sel c0 c1 c2 c3 c4 c5 i1)) ∧ Fr n0 L ∧ h = h0
set_option maxRecDepth 65536 in
set_option maxHeartbeats 40000000 in
theorem rm_lca (l : Launch) (Z : State) (a0 : Array Value) (hw : ∀ d ∈ tables_1, d.before a0 Z = true) (zc : Int32) (vfm : Value) (a1 : Addr) (k1 : ClassId) (c0 : Int32) (c1 : Int32) (c2 : Int32) (c3 : Int32) (c4 : Int32) (c5 : Int32) (i1 : Int32) (h0 : Heap) (n0 : Nat) (Z0 : n0 ≤ h0.size) (A_a1 : Arv Z h0 a1 k1 .byte (6 : Int32) [(.int c0.toInt8.toInt32), (.int c1.toInt8.toInt32), (.int c2.toInt8.toInt32), (.int c3.toInt8.toInt32), (.int c4.toInt8.toInt32), (.int c5.toInt8.toInt32)] (.int (0 : Int32))) (hi : (0 ≤ i1.toInt ∧ i1.toInt < 6)) (h_c0 : (0 ≤ c0.toInt ∧ c0.toInt ≤ 65535)) (h_c1 : (0 ≤ c1.toInt ∧ c1.toInt ≤ 65535)) (h_c2 : (0 ≤ c2.toInt ∧ c2.toInt ≤ 65535)) (h_c3 : (0 ≤ c3.toInt ∧ c3.toInt ≤ 65535)) (h_c4 : (0 ≤ c4.toInt ∧ c4.toInt ≤ 65535)) (h_c5 : (0 ≤ c5.toInt ∧ c5.toInt ≤ 65535)) (l_c0 : (¬ (255 : Int32) < c0)) (l_c1 : (¬ (255 : Int32) < c1)) (l_c2 : (¬ (255 : Int32) < c2)) (l_c3 : (¬ (255 : Int32) < c3)) (l_c4 : (¬ (255 : Int32) < c4)) (l_c5 : (¬ (255 : Int32) < c5)) (hSt : St Z zc vfm) (hO : Old Z n0 h0) :
    CN l Z ({ cls := "java/lang/StringLatin1", name := "charAt", desc := "([BI)C" } : Jvm.MethodName) [(Jvm.Cond.code ({ cls := "java/lang/StringLatin1", name := "charAt", desc := "([BI)C" } : Jvm.MethodName) jdk_43_method_2_code (2 : Nat) (Option.some Jvm.ClassFile.FieldType.char))] ({ frames := 2, cells := 0, slots := 0, locals := 27 } : Room) #[(.ref a1), (.int i1)] h0 (Q_lca Z zc vfm a1 k1 c0 c1 c2 c3 c4 c5 i1 h0 n0) := by
  refine CN.of (L0 := #[vR a1, vI i1]) (plainFor_of_name pn_4) (fun m => by first | (simp [entryFrame, mkF, argsToLocals, Value.category]; done) | rfl) ?_
  intro p e s m below meth c s₁ hx hby hml hret hlk hZ hown hnm X0 e0
  have N0 := Fr.nil n0
  have KP0 := Keep.refl h0 []
  have hSt_ := hSt
  obtain ⟨S_cs, n_cs, S_fm, r_fm, S_ad, S_hi, S_lo⟩ := hSt_
  show Go p e below _ (s₁.setTop (mkF m 0 #[vR a1, vI i1] []))
  refine Go.step (fun _ k => XS.iloadN X0.here hx rfl (hb hby d_jdk_43_method_2_code_0) rfl  k) ?_
  refine Go.step (fun _ k => XS.aloadN X0.here hx rfl (hb hby d_jdk_43_method_2_code_1) rfl rfl k) ?_
  show Go p e below _ (s₁.setTop (mkF m 2 #[vR a1, vI i1] [(.ref a1), (.int i1)]))
  have cp224 := A_a1
  obtain ⟨cl_223, Ar_223, -, Sz_223, Ng_223, -, -⟩ := cp224
  refine Go.step (fun _ k => X0.arraylength hx (by rw [e0]; exact Ar_223.1) (State.isArrayOf_alike hZ.alike Ar_223.2.1) (g := (mkF m 2 #[vR a1, vI i1] [(.ref a1), (.int i1)])) rfl rfl (hb hby d_jdk_43_method_2_code_2) _ k) ?_
  rw [len_of Sz_223 Ng_223]
  show Go p e below _ (s₁.setTop (mkF m 3 #[vR a1, vI i1] [(.int (6 : Int32)), (.int i1)]))
  obtain ⟨v_225, T_225, L_225, X_225, hQ_225, st_225⟩ := goS X0 hx hZ (y := Y_11) hown (wd_104 hw) (wd_79 hw) (wd_9 hw) (wd_80 hw) (by decide) (backOf (W := 0) (rm_sci l Z a0 hw zc vfm (i1) h0 n0 (Nat.le_trans Z0 KP0.1) hi hSt hO) hZ (wd_80 hw) (wd_9 hw) (by decide) (by decide)) e0 (g := (mkF m 3 #[vR a1, vI i1] [(.int (6 : Int32)), (.int i1)])) rfl (by rw [hml]; rfl) (argsL := [(.int i1), (.int (6 : Int32))]) (rest := []) rfl (lenOf pd_10 rfl) rfl (by show 2 * 0 + _ ≤ _; exact Nat.le_of_eq rfl) (hb hby d_jdk_43_method_2_code_3) (by decide) (by decide)
  obtain ⟨rfl, Nq_225, e_225⟩ := hQ_225
  have N_225 := Fr.app N0 Nq_225
  refine Go.step st_225 ?_
  show Go p e below _ (T_225.setTop (mkF m 6 #[vR a1, vI i1] []))
  rcases (range6 hi) with rfl | rfl | rfl | rfl | rfl | rfl
  · skip
    show Go p e below _ (T_225.setTop (mkF m 6 #[vR a1, vI 0] []))
    refine Go.step (fun _ k => XS.aloadN X_225.here hx rfl (hb hby d_jdk_43_method_2_code_6) rfl rfl k) ?_
    refine Go.step (fun _ k => XS.iloadN X_225.here hx rfl (hb hby d_jdk_43_method_2_code_7) rfl  k) ?_
    show Go p e below _ (T_225.setTop (mkF m 8 #[vR a1, vI 0] [(.int (0 : Int32)), (.ref a1)]))
    have cp227 := A_a1
    obtain ⟨cl_226, Ar_226, -, Sz_226, -, Hs_226, -⟩ := cp227
    have hin_226 : ¬ ((0 : Int32) < 0 ∨ cl_226.slots.size ≤ ((0 : Int32)).toNatClampNeg) := (inb_of Sz_226 ⟨by decide, by decide⟩)
    have hat_226 : cl_226.slots[((0 : Int32)).toNatClampNeg]? = some (.int c0.toInt8.toInt32) := (Hs_226.at (inb_of Sz_226 ⟨by decide, by decide⟩) rfl)
    refine Go.step (fun _ k => X_225.baloadBytes hx (j := (0 : Int32)) (v := (.int c0.toInt8.toInt32)) (by rw [e_225]; exact Ar_226.1) (State.isArrayOf_alike hZ.alike Ar_226.2.1) Ar_226.2.2 hin_226 hat_226 (g := (mkF m 8 #[vR a1, vI 0] [(.int (0 : Int32)), (.ref a1)])) rfl rfl (hb hby d_jdk_43_method_2_code_8) _ k) ?_
    show Go p e below _ (T_225.setTop (mkF m 9 #[vR a1, vI 0] [(.int c0.toInt8.toInt32)]))
    refine Go.step (fun _ k => XS.sipush X_225.here hx rfl (hb hby d_jdk_43_method_2_code_9) k) ?_
    show Go p e below _ (T_225.setTop (mkF m 12 #[vR a1, vI 0] [(.int (255 : Int32)), (.int c0.toInt8.toInt32)]))
    refine Go.step (fun _ k => XS.iand X_225.here hx rfl (hb hby d_jdk_43_method_2_code_12) rfl k) ?_
    show Go p e below _ (T_225.setTop (mkF m 13 #[vR a1, vI 0] [(.int (c0.toInt8.toInt32 &&& (255 : Int32)))]))
    refine Go.step (fun _ k => XS.i2c X_225.here hx rfl (hb hby d_jdk_43_method_2_code_13) rfl k) ?_
    show Go p e below _ (T_225.setTop (mkF m 14 #[vR a1, vI 0] [(.int (nar .char (c0.toInt8.toInt32 &&& (255 : Int32))))]))
    refine own_top (congrArg Value.int (show (nar .char (c0.toInt8.toInt32 &&& (255 : Int32))) = c0 from l16 h_c0 l_c0)) ?_
    show Go p e below _ (T_225.setTop (mkF m 14 #[vR a1, vI 0] [(.int c0)]))
    exact Go.retV X_225 hx hlk hret (congrArg Value.int (nar_u h_c0)) (Or.inl ⟨rfl, Or.inr (Or.inr (Or.inr (Or.inl rfl))), _, rfl⟩) (hb hby d_jdk_43_method_2_code_14) (by decide) (by decide) (by rw [e_225]; exact ⟨rfl, N_225, rfl⟩)
  · skip
    show Go p e below _ (T_225.setTop (mkF m 6 #[vR a1, vI 1] []))
    refine Go.step (fun _ k => XS.aloadN X_225.here hx rfl (hb hby d_jdk_43_method_2_code_6) rfl rfl k) ?_
    refine Go.step (fun _ k => XS.iloadN X_225.here hx rfl (hb hby d_jdk_43_method_2_code_7) rfl  k) ?_
    show Go p e below _ (T_225.setTop (mkF m 8 #[vR a1, vI 1] [(.int (1 : Int32)), (.ref a1)]))
    have cp229 := A_a1
    obtain ⟨cl_228, Ar_228, -, Sz_228, -, Hs_228, -⟩ := cp229
    have hin_228 : ¬ ((1 : Int32) < 0 ∨ cl_228.slots.size ≤ ((1 : Int32)).toNatClampNeg) := (inb_of Sz_228 ⟨by decide, by decide⟩)
    have hat_228 : cl_228.slots[((1 : Int32)).toNatClampNeg]? = some (.int c1.toInt8.toInt32) := (Hs_228.at (inb_of Sz_228 ⟨by decide, by decide⟩) rfl)
    refine Go.step (fun _ k => X_225.baloadBytes hx (j := (1 : Int32)) (v := (.int c1.toInt8.toInt32)) (by rw [e_225]; exact Ar_228.1) (State.isArrayOf_alike hZ.alike Ar_228.2.1) Ar_228.2.2 hin_228 hat_228 (g := (mkF m 8 #[vR a1, vI 1] [(.int (1 : Int32)), (.ref a1)])) rfl rfl (hb hby d_jdk_43_method_2_code_8) _ k) ?_
    show Go p e below _ (T_225.setTop (mkF m 9 #[vR a1, vI 1] [(.int c1.toInt8.toInt32)]))
    refine Go.step (fun _ k => XS.sipush X_225.here hx rfl (hb hby d_jdk_43_method_2_code_9) k) ?_
    show Go p e below _ (T_225.setTop (mkF m 12 #[vR a1, vI 1] [(.int (255 : Int32)), (.int c1.toInt8.toInt32)]))
    refine Go.step (fun _ k => XS.iand X_225.here hx rfl (hb hby d_jdk_43_method_2_code_12) rfl k) ?_
    show Go p e below _ (T_225.setTop (mkF m 13 #[vR a1, vI 1] [(.int (c1.toInt8.toInt32 &&& (255 : Int32)))]))
    refine Go.step (fun _ k => XS.i2c X_225.here hx rfl (hb hby d_jdk_43_method_2_code_13) rfl k) ?_
    show Go p e below _ (T_225.setTop (mkF m 14 #[vR a1, vI 1] [(.int (nar .char (c1.toInt8.toInt32 &&& (255 : Int32))))]))
    refine own_top (congrArg Value.int (show (nar .char (c1.toInt8.toInt32 &&& (255 : Int32))) = c1 from l16 h_c1 l_c1)) ?_
    show Go p e below _ (T_225.setTop (mkF m 14 #[vR a1, vI 1] [(.int c1)]))
    exact Go.retV X_225 hx hlk hret (congrArg Value.int (nar_u h_c1)) (Or.inl ⟨rfl, Or.inr (Or.inr (Or.inr (Or.inl rfl))), _, rfl⟩) (hb hby d_jdk_43_method_2_code_14) (by decide) (by decide) (by rw [e_225]; exact ⟨rfl, N_225, rfl⟩)
  · skip
    show Go p e below _ (T_225.setTop (mkF m 6 #[vR a1, vI 2] []))
    refine Go.step (fun _ k => XS.aloadN X_225.here hx rfl (hb hby d_jdk_43_method_2_code_6) rfl rfl k) ?_
    refine Go.step (fun _ k => XS.iloadN X_225.here hx rfl (hb hby d_jdk_43_method_2_code_7) rfl  k) ?_
    show Go p e below _ (T_225.setTop (mkF m 8 #[vR a1, vI 2] [(.int (2 : Int32)), (.ref a1)]))
    have cp231 := A_a1
    obtain ⟨cl_230, Ar_230, -, Sz_230, -, Hs_230, -⟩ := cp231
    have hin_230 : ¬ ((2 : Int32) < 0 ∨ cl_230.slots.size ≤ ((2 : Int32)).toNatClampNeg) := (inb_of Sz_230 ⟨by decide, by decide⟩)
    have hat_230 : cl_230.slots[((2 : Int32)).toNatClampNeg]? = some (.int c2.toInt8.toInt32) := (Hs_230.at (inb_of Sz_230 ⟨by decide, by decide⟩) rfl)
    refine Go.step (fun _ k => X_225.baloadBytes hx (j := (2 : Int32)) (v := (.int c2.toInt8.toInt32)) (by rw [e_225]; exact Ar_230.1) (State.isArrayOf_alike hZ.alike Ar_230.2.1) Ar_230.2.2 hin_230 hat_230 (g := (mkF m 8 #[vR a1, vI 2] [(.int (2 : Int32)), (.ref a1)])) rfl rfl (hb hby d_jdk_43_method_2_code_8) _ k) ?_
    show Go p e below _ (T_225.setTop (mkF m 9 #[vR a1, vI 2] [(.int c2.toInt8.toInt32)]))
    refine Go.step (fun _ k => XS.sipush X_225.here hx rfl (hb hby d_jdk_43_method_2_code_9) k) ?_
    show Go p e below _ (T_225.setTop (mkF m 12 #[vR a1, vI 2] [(.int (255 : Int32)), (.int c2.toInt8.toInt32)]))
    refine Go.step (fun _ k => XS.iand X_225.here hx rfl (hb hby d_jdk_43_method_2_code_12) rfl k) ?_
    show Go p e below _ (T_225.setTop (mkF m 13 #[vR a1, vI 2] [(.int (c2.toInt8.toInt32 &&& (255 : Int32)))]))
    refine Go.step (fun _ k => XS.i2c X_225.here hx rfl (hb hby d_jdk_43_method_2_code_13) rfl k) ?_
    show Go p e below _ (T_225.setTop (mkF m 14 #[vR a1, vI 2] [(.int (nar .char (c2.toInt8.toInt32 &&& (255 : Int32))))]))
    refine own_top (congrArg Value.int (show (nar .char (c2.toInt8.toInt32 &&& (255 : Int32))) = c2 from l16 h_c2 l_c2)) ?_
    show Go p e below _ (T_225.setTop (mkF m 14 #[vR a1, vI 2] [(.int c2)]))
    exact Go.retV X_225 hx hlk hret (congrArg Value.int (nar_u h_c2)) (Or.inl ⟨rfl, Or.inr (Or.inr (Or.inr (Or.inl rfl))), _, rfl⟩) (hb hby d_jdk_43_method_2_code_14) (by decide) (by decide) (by rw [e_225]; exact ⟨rfl, N_225, rfl⟩)
  · skip
    show Go p e below _ (T_225.setTop (mkF m 6 #[vR a1, vI 3] []))
    refine Go.step (fun _ k => XS.aloadN X_225.here hx rfl (hb hby d_jdk_43_method_2_code_6) rfl rfl k) ?_
    refine Go.step (fun _ k => XS.iloadN X_225.here hx rfl (hb hby d_jdk_43_method_2_code_7) rfl  k) ?_
    show Go p e below _ (T_225.setTop (mkF m 8 #[vR a1, vI 3] [(.int (3 : Int32)), (.ref a1)]))
    have cp233 := A_a1
    obtain ⟨cl_232, Ar_232, -, Sz_232, -, Hs_232, -⟩ := cp233
    have hin_232 : ¬ ((3 : Int32) < 0 ∨ cl_232.slots.size ≤ ((3 : Int32)).toNatClampNeg) := (inb_of Sz_232 ⟨by decide, by decide⟩)
    have hat_232 : cl_232.slots[((3 : Int32)).toNatClampNeg]? = some (.int c3.toInt8.toInt32) := (Hs_232.at (inb_of Sz_232 ⟨by decide, by decide⟩) rfl)
    refine Go.step (fun _ k => X_225.baloadBytes hx (j := (3 : Int32)) (v := (.int c3.toInt8.toInt32)) (by rw [e_225]; exact Ar_232.1) (State.isArrayOf_alike hZ.alike Ar_232.2.1) Ar_232.2.2 hin_232 hat_232 (g := (mkF m 8 #[vR a1, vI 3] [(.int (3 : Int32)), (.ref a1)])) rfl rfl (hb hby d_jdk_43_method_2_code_8) _ k) ?_
    show Go p e below _ (T_225.setTop (mkF m 9 #[vR a1, vI 3] [(.int c3.toInt8.toInt32)]))
    refine Go.step (fun _ k => XS.sipush X_225.here hx rfl (hb hby d_jdk_43_method_2_code_9) k) ?_
    show Go p e below _ (T_225.setTop (mkF m 12 #[vR a1, vI 3] [(.int (255 : Int32)), (.int c3.toInt8.toInt32)]))
    refine Go.step (fun _ k => XS.iand X_225.here hx rfl (hb hby d_jdk_43_method_2_code_12) rfl k) ?_
    show Go p e below _ (T_225.setTop (mkF m 13 #[vR a1, vI 3] [(.int (c3.toInt8.toInt32 &&& (255 : Int32)))]))
    refine Go.step (fun _ k => XS.i2c X_225.here hx rfl (hb hby d_jdk_43_method_2_code_13) rfl k) ?_
    show Go p e below _ (T_225.setTop (mkF m 14 #[vR a1, vI 3] [(.int (nar .char (c3.toInt8.toInt32 &&& (255 : Int32))))]))
    refine own_top (congrArg Value.int (show (nar .char (c3.toInt8.toInt32 &&& (255 : Int32))) = c3 from l16 h_c3 l_c3)) ?_
    show Go p e below _ (T_225.setTop (mkF m 14 #[vR a1, vI 3] [(.int c3)]))
    exact Go.retV X_225 hx hlk hret (congrArg Value.int (nar_u h_c3)) (Or.inl ⟨rfl, Or.inr (Or.inr (Or.inr (Or.inl rfl))), _, rfl⟩) (hb hby d_jdk_43_method_2_code_14) (by decide) (by decide) (by rw [e_225]; exact ⟨rfl, N_225, rfl⟩)
  · skip
    show Go p e below _ (T_225.setTop (mkF m 6 #[vR a1, vI 4] []))
    refine Go.step (fun _ k => XS.aloadN X_225.here hx rfl (hb hby d_jdk_43_method_2_code_6) rfl rfl k) ?_
    refine Go.step (fun _ k => XS.iloadN X_225.here hx rfl (hb hby d_jdk_43_method_2_code_7) rfl  k) ?_
    show Go p e below _ (T_225.setTop (mkF m 8 #[vR a1, vI 4] [(.int (4 : Int32)), (.ref a1)]))
    have cp235 := A_a1
    obtain ⟨cl_234, Ar_234, -, Sz_234, -, Hs_234, -⟩ := cp235
    have hin_234 : ¬ ((4 : Int32) < 0 ∨ cl_234.slots.size ≤ ((4 : Int32)).toNatClampNeg) := (inb_of Sz_234 ⟨by decide, by decide⟩)
    have hat_234 : cl_234.slots[((4 : Int32)).toNatClampNeg]? = some (.int c4.toInt8.toInt32) := (Hs_234.at (inb_of Sz_234 ⟨by decide, by decide⟩) rfl)
    refine Go.step (fun _ k => X_225.baloadBytes hx (j := (4 : Int32)) (v := (.int c4.toInt8.toInt32)) (by rw [e_225]; exact Ar_234.1) (State.isArrayOf_alike hZ.alike Ar_234.2.1) Ar_234.2.2 hin_234 hat_234 (g := (mkF m 8 #[vR a1, vI 4] [(.int (4 : Int32)), (.ref a1)])) rfl rfl (hb hby d_jdk_43_method_2_code_8) _ k) ?_
    show Go p e below _ (T_225.setTop (mkF m 9 #[vR a1, vI 4] [(.int c4.toInt8.toInt32)]))
    refine Go.step (fun _ k => XS.sipush X_225.here hx rfl (hb hby d_jdk_43_method_2_code_9) k) ?_
    show Go p e below _ (T_225.setTop (mkF m 12 #[vR a1, vI 4] [(.int (255 : Int32)), (.int c4.toInt8.toInt32)]))
    refine Go.step (fun _ k => XS.iand X_225.here hx rfl (hb hby d_jdk_43_method_2_code_12) rfl k) ?_
    show Go p e below _ (T_225.setTop (mkF m 13 #[vR a1, vI 4] [(.int (c4.toInt8.toInt32 &&& (255 : Int32)))]))
    refine Go.step (fun _ k => XS.i2c X_225.here hx rfl (hb hby d_jdk_43_method_2_code_13) rfl k) ?_
    show Go p e below _ (T_225.setTop (mkF m 14 #[vR a1, vI 4] [(.int (nar .char (c4.toInt8.toInt32 &&& (255 : Int32))))]))
    refine own_top (congrArg Value.int (show (nar .char (c4.toInt8.toInt32 &&& (255 : Int32))) = c4 from l16 h_c4 l_c4)) ?_
    show Go p e below _ (T_225.setTop (mkF m 14 #[vR a1, vI 4] [(.int c4)]))
    exact Go.retV X_225 hx hlk hret (congrArg Value.int (nar_u h_c4)) (Or.inl ⟨rfl, Or.inr (Or.inr (Or.inr (Or.inl rfl))), _, rfl⟩) (hb hby d_jdk_43_method_2_code_14) (by decide) (by decide) (by rw [e_225]; exact ⟨rfl, N_225, rfl⟩)
  · skip
    show Go p e below _ (T_225.setTop (mkF m 6 #[vR a1, vI 5] []))
    refine Go.step (fun _ k => XS.aloadN X_225.here hx rfl (hb hby d_jdk_43_method_2_code_6) rfl rfl k) ?_
    refine Go.step (fun _ k => XS.iloadN X_225.here hx rfl (hb hby d_jdk_43_method_2_code_7) rfl  k) ?_
    show Go p e below _ (T_225.setTop (mkF m 8 #[vR a1, vI 5] [(.int (5 : Int32)), (.ref a1)]))
    have cp237 := A_a1
    obtain ⟨cl_236, Ar_236, -, Sz_236, -, Hs_236, -⟩ := cp237
    have hin_236 : ¬ ((5 : Int32) < 0 ∨ cl_236.slots.size ≤ ((5 : Int32)).toNatClampNeg) := (inb_of Sz_236 ⟨by decide, by decide⟩)
    have hat_236 : cl_236.slots[((5 : Int32)).toNatClampNeg]? = some (.int c5.toInt8.toInt32) := (Hs_236.at (inb_of Sz_236 ⟨by decide, by decide⟩) rfl)
    refine Go.step (fun _ k => X_225.baloadBytes hx (j := (5 : Int32)) (v := (.int c5.toInt8.toInt32)) (by rw [e_225]; exact Ar_236.1) (State.isArrayOf_alike hZ.alike Ar_236.2.1) Ar_236.2.2 hin_236 hat_236 (g := (mkF m 8 #[vR a1, vI 5] [(.int (5 : Int32)), (.ref a1)])) rfl rfl (hb hby d_jdk_43_method_2_code_8) _ k) ?_
    show Go p e below _ (T_225.setTop (mkF m 9 #[vR a1, vI 5] [(.int c5.toInt8.toInt32)]))
    refine Go.step (fun _ k => XS.sipush X_225.here hx rfl (hb hby d_jdk_43_method_2_code_9) k) ?_
    show Go p e below _ (T_225.setTop (mkF m 12 #[vR a1, vI 5] [(.int (255 : Int32)), (.int c5.toInt8.toInt32)]))
    refine Go.step (fun _ k => XS.iand X_225.here hx rfl (hb hby d_jdk_43_method_2_code_12) rfl k) ?_
    show Go p e below _ (T_225.setTop (mkF m 13 #[vR a1, vI 5] [(.int (c5.toInt8.toInt32 &&& (255 : Int32)))]))
    refine Go.step (fun _ k => XS.i2c X_225.here hx rfl (hb hby d_jdk_43_method_2_code_13) rfl k) ?_
    show Go p e below _ (T_225.setTop (mkF m 14 #[vR a1, vI 5] [(.int (nar .char (c5.toInt8.toInt32 &&& (255 : Int32))))]))
    refine own_top (congrArg Value.int (show (nar .char (c5.toInt8.toInt32 &&& (255 : Int32))) = c5 from l16 h_c5 l_c5)) ?_
    show Go p e below _ (T_225.setTop (mkF m 14 #[vR a1, vI 5] [(.int c5)]))
    exact Go.retV X_225 hx hlk hret (congrArg Value.int (nar_u h_c5)) (Or.inl ⟨rfl, Or.inr (Or.inr (Or.inr (Or.inl rfl))), _, rfl⟩) (hb hby d_jdk_43_method_2_code_14) (by decide) (by decide) (by rw [e_225]; exact ⟨rfl, N_225, rfl⟩)
--@E
--@C islL
def Q_islL (Z : State) (zc : Int32) (vfm : Value) (a1 : Addr) (h0 : Heap) (n0 : Nat) (v : Option Value) (h : Heap) (L : List Loc) : Prop := v = some (.int (1 : Int32)) ∧ Fr n0 L ∧ h = h0
set_option maxRecDepth 65536 in
set_option maxHeartbeats 40000000 in
theorem rm_islL (l : Launch) (Z : State) (a0 : Array Value) (hw : ∀ d ∈ tables_1, d.before a0 Z = true) (zc : Int32) (vfm : Value) (a1 : Addr) (h0 : Heap) (n0 : Nat) (Z0 : n0 ≤ h0.size) (F_c : Fld Z h0 a1 "java/lang/String" "coder" "B" (.int (0 : Int32))) (hSt : St Z zc vfm) (hO : Old Z n0 h0) :
    CN l Z ({ cls := "java/lang/String", name := "isLatin1", desc := "()Z" } : Jvm.MethodName) [(Jvm.Cond.code ({ cls := "java/lang/String", name := "isLatin1", desc := "()Z" } : Jvm.MethodName) jdk_42_method_154_code (1 : Nat) (Option.some Jvm.ClassFile.FieldType.boolean))] ({ frames := 0, cells := 0, slots := 0, locals := 0 } : Room) #[(.ref a1)] h0 (Q_islL Z zc vfm a1 h0 n0) := by
  refine CN.of (L0 := #[vR a1]) (plainFor_of_name pn_2) (fun m => by first | (simp [entryFrame, mkF, argsToLocals, Value.category]; done) | rfl) ?_
  intro p e s m below meth c s₁ hx hby hml hret hlk hZ hown hnm X0 e0
  have N0 := Fr.nil n0
  have KP0 := Keep.refl h0 []
  have hSt_ := hSt
  obtain ⟨S_cs, n_cs, S_fm, r_fm, S_ad, S_hi, S_lo⟩ := hSt_
  show Go p e below _ (s₁.setTop (mkF m 0 #[vR a1] []))
  obtain ⟨T_238, X_238, e_238, st_238⟩ := getS2 X0 hx hZ hown (host := "") (Or.inl (wd_20 hw)) Via.refl e0 (S_cs.ext hO.2) (g := (mkF m 0 #[vR a1] [])) rfl (hb hby d_jdk_42_method_154_code_0)
  refine Go.step st_238 ?_
  show Go p e below _ (T_238.setTop (mkF m 3 #[vR a1] [(.int zc)]))
  refine Go.step (fun _ k => XS.ifNo X_238.here hx rfl (hb hby d_jdk_42_method_154_code_3) rfl ((if0 _ _).trans (feq (n_cs : ¬ (zc = (0 : Int32)))).1) k) ?_
  show Go p e below _ (T_238.setTop (mkF m 6 #[vR a1] []))
  refine Go.step (fun _ k => XS.aloadN X_238.here hx rfl (hb hby d_jdk_42_method_154_code_6) rfl rfl k) ?_
  show Go p e below _ (T_238.setTop (mkF m 7 #[vR a1] [(.ref a1)]))
  obtain ⟨T_239, X_239, e_239, st_239⟩ := getF X_238 hx hZ hown (host := "") (Or.inl (wd_51 hw)) Via.refl e_238 F_c (g := (mkF m 7 #[vR a1] [(.ref a1)])) rfl rfl (hb hby d_jdk_42_method_154_code_7)
  refine Go.step st_239 ?_
  show Go p e below _ (T_239.setTop (mkF m 10 #[vR a1] [(.int (0 : Int32))]))
  refine Go.step (fun _ k => XS.ifNo X_239.here hx rfl (hb hby d_jdk_42_method_154_code_10) rfl ((if0 _ _).trans (teq ((by decide) : (0 : Int32) = (0 : Int32))).2) k) ?_
  show Go p e below _ (T_239.setTop (mkF m 13 #[vR a1] []))
  refine Go.step (fun _ k => XS.iconst X_239.here hx rfl (hb hby d_jdk_42_method_154_code_13) k) ?_
  show Go p e below _ (T_239.setTop (mkF m 14 #[vR a1] [(.int (1 : Int32))]))
  refine Go.step (fun _ k => XS.goto X_239.here hx rfl (pc0 := 14) (pc' := 18) rfl (hb hby d_jdk_42_method_154_code_14) (by decide) (by decide) k) ?_
  show Go p e below _ (T_239.setTop (mkF m 18 #[vR a1] [(.int (1 : Int32))]))
  exact Go.retV X_239 hx hlk hret rfl (Or.inl ⟨rfl, Or.inr (Or.inl rfl), _, rfl⟩) (hb hby d_jdk_42_method_154_code_18) (by decide) (by decide) (by rw [e_239]; exact ⟨rfl, N0, rfl⟩)
--@E
--@C caL
def Q_caL (Z : State) (zc : Int32) (vfm : Value) (a1 : Addr) (t1 : Addr) (kt : ClassId) (c0 : Int32) (c1 : Int32) (c2 : Int32) (c3 : Int32) (c4 : Int32) (c5 : Int32) (i1 : Int32) (h0 : Heap) (n0 : Nat) (v : Option Value) (h : Heap) (L : List Loc) : Prop := v = some (.int (sel c0 c1 c2 c3 c4 c5 i1)) ∧ Fr n0 L ∧ h = h0
set_option maxRecDepth 65536 in
set_option maxHeartbeats 40000000 in
theorem rm_caL (l : Launch) (Z : State) (a0 : Array Value) (hw : ∀ d ∈ tables_1, d.before a0 Z = true) (zc : Int32) (vfm : Value) (a1 : Addr) (t1 : Addr) (kt : ClassId) (c0 : Int32) (c1 : Int32) (c2 : Int32) (c3 : Int32) (c4 : Int32) (c5 : Int32) (i1 : Int32) (h0 : Heap) (n0 : Nat) (Z0 : n0 ≤ h0.size) (E_a1 : Exa Z h0 a1 "java/lang/String") (F_v : Fld Z h0 a1 "java/lang/String" "value" "[B" (.ref t1)) (F_c : Fld Z h0 a1 "java/lang/String" "coder" "B" (.int (0 : Int32))) (A_t : Arv Z h0 t1 kt .byte (6 : Int32) [(.int c0.toInt8.toInt32), (.int c1.toInt8.toInt32), (.int c2.toInt8.toInt32), (.int c3.toInt8.toInt32), (.int c4.toInt8.toInt32), (.int c5.toInt8.toInt32)] (.int (0 : Int32))) (h_c0 : (0 ≤ c0.toInt ∧ c0.toInt ≤ 65535)) (h_c1 : (0 ≤ c1.toInt ∧ c1.toInt ≤ 65535)) (h_c2 : (0 ≤ c2.toInt ∧ c2.toInt ≤ 65535)) (h_c3 : (0 ≤ c3.toInt ∧ c3.toInt ≤ 65535)) (h_c4 : (0 ≤ c4.toInt ∧ c4.toInt ≤ 65535)) (h_c5 : (0 ≤ c5.toInt ∧ c5.toInt ≤ 65535)) (l_c0 : (¬ (255 : Int32) < c0)) (l_c1 : (¬ (255 : Int32) < c1)) (l_c2 : (¬ (255 : Int32) < c2)) (l_c3 : (¬ (255 : Int32) < c3)) (l_c4 : (¬ (255 : Int32) < c4)) (l_c5 : (¬ (255 : Int32) < c5)) (hi : (0 ≤ i1.toInt ∧ i1.toInt < 6)) (hSt : St Z zc vfm) (hO : Old Z n0 h0) :
    CN l Z ({ cls := "java/lang/String", name := "charAt", desc := "(I)C" } : Jvm.MethodName) [(Jvm.Cond.code ({ cls := "java/lang/String", name := "charAt", desc := "(I)C" } : Jvm.MethodName) jdk_42_method_56_code (2 : Nat) (Option.some Jvm.ClassFile.FieldType.char))] ({ frames := 3, cells := 0, slots := 0, locals := 40 } : Room) #[(.ref a1), (.int i1)] h0 (Q_caL Z zc vfm a1 t1 kt c0 c1 c2 c3 c4 c5 i1 h0 n0) := by
  refine CN.of (L0 := #[vR a1, vI i1]) (plainFor_of_name pn_2) (fun m => by first | (simp [entryFrame, mkF, argsToLocals, Value.category]; done) | rfl) ?_
  intro p e s m below meth c s₁ hx hby hml hret hlk hZ hown hnm X0 e0
  have N0 := Fr.nil n0
  have KP0 := Keep.refl h0 []
  have hSt_ := hSt
  obtain ⟨S_cs, n_cs, S_fm, r_fm, S_ad, S_hi, S_lo⟩ := hSt_
  show Go p e below _ (s₁.setTop (mkF m 0 #[vR a1, vI i1] []))
  refine Go.step (fun _ k => XS.aloadN X0.here hx rfl (hb hby d_jdk_42_method_56_code_0) rfl rfl k) ?_
  show Go p e below _ (s₁.setTop (mkF m 1 #[vR a1, vI i1] [(.ref a1)]))
  obtain ⟨v_240, T_240, L_240, X_240, hQ_240, st_240⟩ := goV X0 hx hZ (y := Y_13) (z := Y_13) hown (wd_64 hw) (wd_65 hw) (notFace_of_selects (args := #[]) (mvT hZ (wd_67 hw))) (wd_67 hw) (wd_66 hw) (by decide) (backOf (W := 0) (rm_islL l Z a0 hw zc vfm (a1) h0 n0 (Nat.le_trans Z0 KP0.1) F_c hSt hO) hZ (wd_68 hw) (wd_9 hw) (by decide) (by decide)) e0 E_a1 (g := (mkF m 1 #[vR a1, vI i1] [(.ref a1)])) rfl (by rw [hml]; rfl) (argsL := []) (rest := []) rfl (lenOf pd_12 rfl) rfl (by show 2 * 0 + _ ≤ _; exact Nat.le_of_eq rfl) (hb hby d_jdk_42_method_56_code_1) (by decide) (by decide)
  obtain ⟨rfl, Nq_240, e_240⟩ := hQ_240
  have N_240 := Fr.app N0 Nq_240
  refine Go.step st_240 ?_
  show Go p e below _ (T_240.setTop (mkF m 4 #[vR a1, vI i1] [(.int (1 : Int32))]))
  refine Go.step (fun _ k => XS.ifNo X_240.here hx rfl (hb hby d_jdk_42_method_56_code_4) rfl ((if0 _ _).trans (feq ((by decide) : ¬ ((1 : Int32) = (0 : Int32)))).1) k) ?_
  show Go p e below _ (T_240.setTop (mkF m 7 #[vR a1, vI i1] []))
  refine Go.step (fun _ k => XS.aloadN X_240.here hx rfl (hb hby d_jdk_42_method_56_code_7) rfl rfl k) ?_
  show Go p e below _ (T_240.setTop (mkF m 8 #[vR a1, vI i1] [(.ref a1)]))
  obtain ⟨T_241, X_241, e_241, st_241⟩ := getF X_240 hx hZ hown (host := "") (Or.inl (wd_53 hw)) Via.refl e_240 F_v (g := (mkF m 8 #[vR a1, vI i1] [(.ref a1)])) rfl rfl (hb hby d_jdk_42_method_56_code_8)
  refine Go.step st_241 ?_
  show Go p e below _ (T_241.setTop (mkF m 11 #[vR a1, vI i1] [(.ref t1)]))
  refine Go.step (fun _ k => XS.iloadN X_241.here hx rfl (hb hby d_jdk_42_method_56_code_11) rfl  k) ?_
  show Go p e below _ (T_241.setTop (mkF m 12 #[vR a1, vI i1] [(.int i1), (.ref t1)]))
  obtain ⟨v_242, T_242, L_242, X_242, hQ_242, st_242⟩ := goS X_241 hx hZ (y := Y_14) hown (wd_100 hw) (wd_101 hw) (wd_102 hw) (wd_103 hw) (by decide) (backOf (W := 0) (rm_lca l Z a0 hw zc vfm (t1) (kt) c0 c1 c2 c3 c4 c5 (i1) h0 n0 (Nat.le_trans Z0 KP0.1) A_t hi h_c0 h_c1 h_c2 h_c3 h_c4 h_c5 l_c0 l_c1 l_c2 l_c3 l_c4 l_c5 hSt hO) hZ (wd_103 hw) (wd_102 hw) (by decide) (by decide)) e_241 (g := (mkF m 12 #[vR a1, vI i1] [(.int i1), (.ref t1)])) rfl (by rw [hml]; rfl) (argsL := [(.ref t1), (.int i1)]) (rest := []) rfl (lenOf pd_5 rfl) rfl (by show 2 * 0 + _ ≤ _; exact Nat.le_of_eq rfl) (hb hby d_jdk_42_method_56_code_12) (by decide) (by decide)
  obtain ⟨rfl, Nq_242, e_242⟩ := hQ_242
  have N_242 := Fr.app N_240 Nq_242
  refine Go.step st_242 ?_
  show Go p e below _ (T_242.setTop (mkF m 15 #[vR a1, vI i1] [(.int (sel c0 c1 c2 c3 c4 c5 i1))]))
  exact Go.retV X_242 hx hlk hret (congrArg Value.int (nar_u (sel_rng h_c0 h_c1 h_c2 h_c3 h_c4 h_c5 i1))) (Or.inl ⟨rfl, Or.inr (Or.inr (Or.inr (Or.inl rfl))), _, rfl⟩) (hb hby d_jdk_42_method_56_code_15) (by decide) (by decide) (by rw [e_242]; exact ⟨rfl, N_242, rfl⟩)
--@E
--@C rdL
def Q_rdL (Z : State) (zc : Int32) (vfm : Value) (a1 : Addr) (t1 : Addr) (kt : ClassId) (c0 : Int32) (c1 : Int32) (c2 : Int32) (c3 : Int32) (c4 : Int32) (c5 : Int32) (f1 : Int32) (t2 : Int32) (h0 : Heap) (n0 : Nat) (v : Option Value) (h : Heap) (L : List Loc) : Prop := v = some (.long (rdF (sel c0 c1 c2 c3 c4 c5) t2 6 f1 (0 : Int64))) ∧ Fr n0 L ∧ h = h0
set_option maxRecDepth 65536 in
set_option maxHeartbeats 40000000 in
theorem rm_rdL (l : Launch) (Z : State) (a0 : Array Value) (hw : ∀ d ∈ tables_1, d.before a0 Z = true) (zc : Int32) (vfm : Value) (a1 : Addr) (t1 : Addr) (kt : ClassId) (c0 : Int32) (c1 : Int32) (c2 : Int32) (c3 : Int32) (c4 : Int32) (c5 : Int32) (f1 : Int32) (t2 : Int32) (h0 : Heap) (n0 : Nat) (Z0 : n0 ≤ h0.size) (E_a1 : Exa Z h0 a1 "java/lang/String") (F_v : Fld Z h0 a1 "java/lang/String" "value" "[B" (.ref t1)) (F_c : Fld Z h0 a1 "java/lang/String" "coder" "B" (.int (0 : Int32))) (A_t : Arv Z h0 t1 kt .byte (6 : Int32) [(.int c0.toInt8.toInt32), (.int c1.toInt8.toInt32), (.int c2.toInt8.toInt32), (.int c3.toInt8.toInt32), (.int c4.toInt8.toInt32), (.int c5.toInt8.toInt32)] (.int (0 : Int32))) (h_c0 : (0 ≤ c0.toInt ∧ c0.toInt ≤ 65535)) (h_c1 : (0 ≤ c1.toInt ∧ c1.toInt ≤ 65535)) (h_c2 : (0 ≤ c2.toInt ∧ c2.toInt ≤ 65535)) (h_c3 : (0 ≤ c3.toInt ∧ c3.toInt ≤ 65535)) (h_c4 : (0 ≤ c4.toInt ∧ c4.toInt ≤ 65535)) (h_c5 : (0 ≤ c5.toInt ∧ c5.toInt ≤ 65535)) (l_c0 : (¬ (255 : Int32) < c0)) (l_c1 : (¬ (255 : Int32) < c1)) (l_c2 : (¬ (255 : Int32) < c2)) (l_c3 : (¬ (255 : Int32) < c3)) (l_c4 : (¬ (255 : Int32) < c4)) (l_c5 : (¬ (255 : Int32) < c5)) (hft : (0 ≤ f1.toInt ∧ f1.toInt ≤ t2.toInt ∧ t2.toInt ≤ 6)) (hSt : St Z zc vfm) (hO : Old Z n0 h0) :
    CN l Z ({ cls := "com/example/sigyn/sigyn/Digits", name := "read", desc := "(Ljava/lang/String;II)J" } : Jvm.MethodName) [(Jvm.Cond.code ({ cls := "com/example/sigyn/sigyn/Digits", name := "read", desc := "(Ljava/lang/String;II)J" } : Jvm.MethodName) prog_1_method_2_code (7 : Nat) (Option.some Jvm.ClassFile.FieldType.long))] ({ frames := 4, cells := 0, slots := 0, locals := 53 } : Room) #[(.ref a1), (.int f1), (.int t2)] h0 (Q_rdL Z zc vfm a1 t1 kt c0 c1 c2 c3 c4 c5 f1 t2 h0 n0) := by
  refine CN.of (L0 := #[vR a1, vI f1, vI t2, vU, vU, vU, vU]) (plainFor_of_name pn_5) (fun m => by first | (simp [entryFrame, mkF, argsToLocals, Value.category]; done) | rfl) ?_
  intro p e s m below meth c s₁ hx hby hml hret hlk hZ hown hnm X0 e0
  have N0 := Fr.nil n0
  have KP0 := Keep.refl h0 []
  have hSt_ := hSt
  obtain ⟨S_cs, n_cs, S_fm, r_fm, S_ad, S_hi, S_lo⟩ := hSt_
  show Go p e below _ (s₁.setTop (mkF m 0 #[vR a1, vI f1, vI t2, vU, vU, vU, vU] []))
  refine Go.step (fun _ k => XS.lconst X0.here hx rfl (hb hby d_prog_1_method_2_code_0) k) ?_
  show Go p e below _ (s₁.setTop (mkF m 1 #[vR a1, vI f1, vI t2, vU, vU, vU, vU] [(.long (0 : Int64))]))
  refine Go.step (fun _ k => XS.lstoreN X0.here hx rfl (hb hby d_prog_1_method_2_code_1) rfl (l' := #[vR a1, vI f1, vI t2, vJ 0, .second, vU, vU]) rfl k) ?_
  show Go p e below _ (s₁.setTop (mkF m 2 #[vR a1, vI f1, vI t2, vJ 0, .second, vU, vU] []))
  refine Go.step (fun _ k => XS.iloadN X0.here hx rfl (hb hby d_prog_1_method_2_code_2) rfl  k) ?_
  show Go p e below _ (s₁.setTop (mkF m 3 #[vR a1, vI f1, vI t2, vJ 0, .second, vU, vU] [(.int f1)]))
  refine Go.step (fun _ k => XS.istore X0.here hx rfl (hb hby d_prog_1_method_2_code_3) rfl (l' := #[vR a1, vI f1, vI t2, vJ 0, .second, vI f1, vU]) rfl k) ?_
  show Go p e below _ (s₁.setTop (mkF m 5 #[vR a1, vI f1, vI t2, vJ 0, .second, vI f1, vU] []))
  refine Go.step (fun _ k => XS.iload X0.here hx rfl (hb hby d_prog_1_method_2_code_5) rfl  k) ?_
  refine Go.step (fun _ k => XS.iloadN X0.here hx rfl (hb hby d_prog_1_method_2_code_7) rfl  k) ?_
  show Go p e below _ (s₁.setTop (mkF m 8 #[vR a1, vI f1, vI t2, vJ 0, .second, vI f1, vU] [(.int t2), (.int f1)]))
  by_cases x0 : f1 < t2
  · skip
    refine Go.step (fun _ k => XS.icmpNo X0.here hx rfl (hb hby d_prog_1_method_2_code_8) rfl (tlt x0).2.1 k) ?_
    show Go p e below _ (s₁.setTop (mkF m 11 #[vR a1, vI f1, vI t2, vJ 0, .second, vI f1, vU] []))
    refine Go.step (fun _ k => XS.aloadN X0.here hx rfl (hb hby d_prog_1_method_2_code_11) rfl rfl k) ?_
    refine Go.step (fun _ k => XS.iload X0.here hx rfl (hb hby d_prog_1_method_2_code_12) rfl  k) ?_
    show Go p e below _ (s₁.setTop (mkF m 14 #[vR a1, vI f1, vI t2, vJ 0, .second, vI f1, vU] [(.int f1), (.ref a1)]))
    have k0' : f1.toInt = f1.toInt + 0 := by omega
    have j0 : 0 ≤ f1.toInt ∧ f1.toInt < 6 := by have := hft; have q := x0; rw [Int32.lt_iff_toInt_lt] at q; omega
    have k0 : (f1 + (1 : Int32)).toInt = f1.toInt + 1 := by have := plus1 k0' (by have := hft; omega); omega
    obtain ⟨v_243, T_243, L_243, X_243, hQ_243, st_243⟩ := goV X0 hx hZ (y := Y_15) (z := Y_15) hown (wd_59 hw) (wd_60 hw) (notFace_of_selects (args := #[]) (mvT hZ (wd_62 hw))) (wd_62 hw) (wd_61 hw) (by decide) (backOf (W := 0) (rm_caL l Z a0 hw zc vfm (a1) (t1) (kt) c0 c1 c2 c3 c4 c5 (f1) h0 n0 (Nat.le_trans Z0 KP0.1) E_a1 F_v F_c A_t h_c0 h_c1 h_c2 h_c3 h_c4 h_c5 l_c0 l_c1 l_c2 l_c3 l_c4 l_c5 j0 hSt hO) hZ (wd_63 hw) (wd_9 hw) (by decide) (by decide)) e0 E_a1 (g := (mkF m 14 #[vR a1, vI f1, vI t2, vJ 0, .second, vI f1, vU] [(.int f1), (.ref a1)])) rfl (by rw [hml]; rfl) (argsL := [(.int f1)]) (rest := []) rfl (lenOf pd_13 rfl) rfl (by show 2 * 0 + _ ≤ _; exact Nat.le_of_eq rfl) (hb hby d_prog_1_method_2_code_14) (by decide) (by decide)
    obtain ⟨rfl, Nq_243, e_243⟩ := hQ_243
    have N_243 := Fr.app N0 Nq_243
    refine Go.step st_243 ?_
    show Go p e below _ (T_243.setTop (mkF m 17 #[vR a1, vI f1, vI t2, vJ 0, .second, vI f1, vU] [(.int (sel c0 c1 c2 c3 c4 c5 f1))]))
    refine Go.step (fun _ k => XS.istore X_243.here hx rfl (hb hby d_prog_1_method_2_code_17) rfl (l' := #[vR a1, vI f1, vI t2, vJ 0, .second, vI f1, vI (sel c0 c1 c2 c3 c4 c5 f1)]) rfl k) ?_
    show Go p e below _ (T_243.setTop (mkF m 19 #[vR a1, vI f1, vI t2, vJ 0, .second, vI f1, vI (sel c0 c1 c2 c3 c4 c5 f1)] []))
    obtain ⟨d0, h_d0⟩ : ∃ z, z = (sel c0 c1 c2 c3 c4 c5 f1) := ⟨_, rfl⟩
    rw [← h_d0]
    show Go p e below _ (T_243.setTop (mkF m 19 #[vR a1, vI f1, vI t2, vJ 0, .second, vI f1, vI d0] []))
    refine Go.step (fun _ k => XS.iload X_243.here hx rfl (hb hby d_prog_1_method_2_code_19) rfl  k) ?_
    refine Go.step (fun _ k => XS.bipush X_243.here hx rfl (hb hby d_prog_1_method_2_code_21) k) ?_
    show Go p e below _ (T_243.setTop (mkF m 23 #[vR a1, vI f1, vI t2, vJ 0, .second, vI f1, vI d0] [(.int (48 : Int32)), (.int d0)]))
    by_cases y0 : d0 < (48 : Int32)
    · skip
      refine Go.step (fun _ k => XS.icmpYes X_243.here hx rfl (pc0 := 23) (pc' := 33) rfl (hb hby d_prog_1_method_2_code_23) rfl (tlt y0).1 (by decide) (by decide) k) ?_
      show Go p e below _ (T_243.setTop (mkF m 33 #[vR a1, vI f1, vI t2, vJ 0, .second, vI f1, vI d0] []))
      refine Go.step (fun _ k => X_243.ldc2Long hx hown (mvT hZ (wd_86 hw)) (g := (mkF m 33 #[vR a1, vI f1, vI t2, vJ 0, .second, vI f1, vI d0] [])) rfl (hb hby d_prog_1_method_2_code_33) _ k) ?_
      show Go p e below _ (T_243.setTop (mkF m 36 #[vR a1, vI f1, vI t2, vJ 0, .second, vI f1, vI d0] [(.long (-1 : Int64))]))
      exact Go.retV X_243 hx hlk hret rfl (Or.inr (Or.inl ⟨rfl, rfl, _, rfl⟩)) (hb hby d_prog_1_method_2_code_36) (by decide) (by decide) (by rw [e_243]; exact ⟨(by subst h_d0; simp only [rdF, x0, y0, if_true, if_false, Int64.zero_mul]), N_243, rfl⟩)
    · skip
      refine Go.step (fun _ k => XS.icmpNo X_243.here hx rfl (hb hby d_prog_1_method_2_code_23) rfl (flt y0).1 k) ?_
      show Go p e below _ (T_243.setTop (mkF m 26 #[vR a1, vI f1, vI t2, vJ 0, .second, vI f1, vI d0] []))
      refine Go.step (fun _ k => XS.iload X_243.here hx rfl (hb hby d_prog_1_method_2_code_26) rfl  k) ?_
      refine Go.step (fun _ k => XS.bipush X_243.here hx rfl (hb hby d_prog_1_method_2_code_28) k) ?_
      show Go p e below _ (T_243.setTop (mkF m 30 #[vR a1, vI f1, vI t2, vJ 0, .second, vI f1, vI d0] [(.int (57 : Int32)), (.int d0)]))
      by_cases z0 : (57 : Int32) < d0
      · skip
        refine Go.step (fun _ k => XS.icmpNo X_243.here hx rfl (hb hby d_prog_1_method_2_code_30) rfl (tlt z0).2.2.2 k) ?_
        show Go p e below _ (T_243.setTop (mkF m 33 #[vR a1, vI f1, vI t2, vJ 0, .second, vI f1, vI d0] []))
        refine Go.step (fun _ k => X_243.ldc2Long hx hown (mvT hZ (wd_86 hw)) (g := (mkF m 33 #[vR a1, vI f1, vI t2, vJ 0, .second, vI f1, vI d0] [])) rfl (hb hby d_prog_1_method_2_code_33) _ k) ?_
        show Go p e below _ (T_243.setTop (mkF m 36 #[vR a1, vI f1, vI t2, vJ 0, .second, vI f1, vI d0] [(.long (-1 : Int64))]))
        exact Go.retV X_243 hx hlk hret rfl (Or.inr (Or.inl ⟨rfl, rfl, _, rfl⟩)) (hb hby d_prog_1_method_2_code_36) (by decide) (by decide) (by rw [e_243]; exact ⟨(by subst h_d0; simp only [rdF, x0, y0, z0, if_true, if_false, Int64.zero_mul]), N_243, rfl⟩)
      · skip
        refine Go.step (fun _ k => XS.icmpYes X_243.here hx rfl (pc0 := 30) (pc' := 37) rfl (hb hby d_prog_1_method_2_code_30) rfl (flt z0).2.2.2 (by decide) (by decide) k) ?_
        show Go p e below _ (T_243.setTop (mkF m 37 #[vR a1, vI f1, vI t2, vJ 0, .second, vI f1, vI d0] []))
        refine Go.step (fun _ k => XS.lloadN X_243.here hx rfl (hb hby d_prog_1_method_2_code_37) rfl  k) ?_
        show Go p e below _ (T_243.setTop (mkF m 38 #[vR a1, vI f1, vI t2, vJ 0, .second, vI f1, vI d0] [(.long (0 : Int64))]))
        refine Go.step (fun _ k => X_243.ldc2Long hx hown (mvT hZ (wd_98 hw)) (g := (mkF m 38 #[vR a1, vI f1, vI t2, vJ 0, .second, vI f1, vI d0] [(.long (0 : Int64))])) rfl (hb hby d_prog_1_method_2_code_38) _ k) ?_
        show Go p e below _ (T_243.setTop (mkF m 41 #[vR a1, vI f1, vI t2, vJ 0, .second, vI f1, vI d0] [(.long (10 : Int64)), (.long (0 : Int64))]))
        refine Go.step (fun _ k => XS.lmul X_243.here hx rfl (hb hby d_prog_1_method_2_code_41) rfl k) ?_
        show Go p e below _ (T_243.setTop (mkF m 42 #[vR a1, vI f1, vI t2, vJ 0, .second, vI f1, vI d0] [(.long ((0 : Int64) * (10 : Int64)))]))
        refine own_top (congrArg Value.long (show ((0 : Int64) * (10 : Int64)) = (0 : Int64) from by decide)) ?_
        show Go p e below _ (T_243.setTop (mkF m 42 #[vR a1, vI f1, vI t2, vJ 0, .second, vI f1, vI d0] [(.long (0 : Int64))]))
        refine Go.step (fun _ k => XS.iload X_243.here hx rfl (hb hby d_prog_1_method_2_code_42) rfl  k) ?_
        refine Go.step (fun _ k => XS.bipush X_243.here hx rfl (hb hby d_prog_1_method_2_code_44) k) ?_
        show Go p e below _ (T_243.setTop (mkF m 46 #[vR a1, vI f1, vI t2, vJ 0, .second, vI f1, vI d0] [(.int (48 : Int32)), (.int d0), (.long (0 : Int64))]))
        refine Go.step (fun _ k => XS.isub X_243.here hx rfl (hb hby d_prog_1_method_2_code_46) rfl k) ?_
        show Go p e below _ (T_243.setTop (mkF m 47 #[vR a1, vI f1, vI t2, vJ 0, .second, vI f1, vI d0] [(.int (d0 - (48 : Int32))), (.long (0 : Int64))]))
        refine Go.step (fun _ k => XS.i2l X_243.here hx rfl (hb hby d_prog_1_method_2_code_47) rfl k) ?_
        show Go p e below _ (T_243.setTop (mkF m 48 #[vR a1, vI f1, vI t2, vJ 0, .second, vI f1, vI d0] [(.long (d0 - (48 : Int32)).toInt64), (.long (0 : Int64))]))
        refine Go.step (fun _ k => XS.ladd X_243.here hx rfl (hb hby d_prog_1_method_2_code_48) rfl k) ?_
        show Go p e below _ (T_243.setTop (mkF m 49 #[vR a1, vI f1, vI t2, vJ 0, .second, vI f1, vI d0] [(.long ((0 : Int64) + (d0 - (48 : Int32)).toInt64))]))
        refine Go.step (fun _ k => XS.lstoreN X_243.here hx rfl (hb hby d_prog_1_method_2_code_49) rfl (l' := #[vR a1, vI f1, vI t2, vJ ((0 : Int64) + (d0 - (48 : Int32)).toInt64), .second, vI f1, vI d0]) rfl k) ?_
        show Go p e below _ (T_243.setTop (mkF m 50 #[vR a1, vI f1, vI t2, vJ ((0 : Int64) + (d0 - (48 : Int32)).toInt64), .second, vI f1, vI d0] []))
        obtain ⟨q0, h_q0⟩ : ∃ z, z = ((0 : Int64) + (d0 - (48 : Int32)).toInt64) := ⟨_, rfl⟩
        rw [← h_q0]
        show Go p e below _ (T_243.setTop (mkF m 50 #[vR a1, vI f1, vI t2, vJ q0, .second, vI f1, vI d0] []))
        refine Go.step (fun _ k => XS.iinc X_243.here hx rfl (hb hby d_prog_1_method_2_code_50) rfl (l' := #[vR a1, vI f1, vI t2, vJ q0, .second, vI (f1 + (1 : Int32)), vI d0]) rfl k) ?_
        show Go p e below _ (T_243.setTop (mkF m 53 #[vR a1, vI f1, vI t2, vJ q0, .second, vI (f1 + (1 : Int32)), vI d0] []))
        refine Go.step (fun _ k => XS.goto X_243.here hx rfl (pc0 := 53) (pc' := 5) rfl (hb hby d_prog_1_method_2_code_53) (by decide) (by decide) k) ?_
        show Go p e below _ (T_243.setTop (mkF m 5 #[vR a1, vI f1, vI t2, vJ q0, .second, vI (f1 + (1 : Int32)), vI d0] []))
        refine Go.step (fun _ k => XS.iload X_243.here hx rfl (hb hby d_prog_1_method_2_code_5) rfl  k) ?_
        refine Go.step (fun _ k => XS.iloadN X_243.here hx rfl (hb hby d_prog_1_method_2_code_7) rfl  k) ?_
        show Go p e below _ (T_243.setTop (mkF m 8 #[vR a1, vI f1, vI t2, vJ q0, .second, vI (f1 + (1 : Int32)), vI d0] [(.int t2), (.int (f1 + (1 : Int32)))]))
        by_cases x1 : (f1 + (1 : Int32)) < t2
        · skip
          refine Go.step (fun _ k => XS.icmpNo X_243.here hx rfl (hb hby d_prog_1_method_2_code_8) rfl (tlt x1).2.1 k) ?_
          show Go p e below _ (T_243.setTop (mkF m 11 #[vR a1, vI f1, vI t2, vJ q0, .second, vI (f1 + (1 : Int32)), vI d0] []))
          refine Go.step (fun _ k => XS.aloadN X_243.here hx rfl (hb hby d_prog_1_method_2_code_11) rfl rfl k) ?_
          refine Go.step (fun _ k => XS.iload X_243.here hx rfl (hb hby d_prog_1_method_2_code_12) rfl  k) ?_
          show Go p e below _ (T_243.setTop (mkF m 14 #[vR a1, vI f1, vI t2, vJ q0, .second, vI (f1 + (1 : Int32)), vI d0] [(.int (f1 + (1 : Int32))), (.ref a1)]))
          have k1' : (f1 + (1 : Int32)).toInt = f1.toInt + 1 := k0
          have j1 : 0 ≤ (f1 + (1 : Int32)).toInt ∧ (f1 + (1 : Int32)).toInt < 6 := by have := hft; have q := x1; rw [Int32.lt_iff_toInt_lt] at q; omega
          have k1 : ((f1 + (1 : Int32)) + (1 : Int32)).toInt = f1.toInt + 2 := by have := plus1 k1' (by have := hft; omega); omega
          obtain ⟨v_244, T_244, L_244, X_244, hQ_244, st_244⟩ := goV X_243 hx hZ (y := Y_15) (z := Y_15) hown (wd_59 hw) (wd_60 hw) (notFace_of_selects (args := #[]) (mvT hZ (wd_62 hw))) (wd_62 hw) (wd_61 hw) (by decide) (backOf (W := 0) (rm_caL l Z a0 hw zc vfm (a1) (t1) (kt) c0 c1 c2 c3 c4 c5 ((f1 + (1 : Int32))) h0 n0 (Nat.le_trans Z0 KP0.1) E_a1 F_v F_c A_t h_c0 h_c1 h_c2 h_c3 h_c4 h_c5 l_c0 l_c1 l_c2 l_c3 l_c4 l_c5 j1 hSt hO) hZ (wd_63 hw) (wd_9 hw) (by decide) (by decide)) e_243 E_a1 (g := (mkF m 14 #[vR a1, vI f1, vI t2, vJ q0, .second, vI (f1 + (1 : Int32)), vI d0] [(.int (f1 + (1 : Int32))), (.ref a1)])) rfl (by rw [hml]; rfl) (argsL := [(.int (f1 + (1 : Int32)))]) (rest := []) rfl (lenOf pd_13 rfl) rfl (by show 2 * 0 + _ ≤ _; exact Nat.le_of_eq rfl) (hb hby d_prog_1_method_2_code_14) (by decide) (by decide)
          obtain ⟨rfl, Nq_244, e_244⟩ := hQ_244
          have N_244 := Fr.app N_243 Nq_244
          refine Go.step st_244 ?_
          show Go p e below _ (T_244.setTop (mkF m 17 #[vR a1, vI f1, vI t2, vJ q0, .second, vI (f1 + (1 : Int32)), vI d0] [(.int (sel c0 c1 c2 c3 c4 c5 (f1 + (1 : Int32))))]))
          refine Go.step (fun _ k => XS.istore X_244.here hx rfl (hb hby d_prog_1_method_2_code_17) rfl (l' := #[vR a1, vI f1, vI t2, vJ q0, .second, vI (f1 + (1 : Int32)), vI (sel c0 c1 c2 c3 c4 c5 (f1 + (1 : Int32)))]) rfl k) ?_
          show Go p e below _ (T_244.setTop (mkF m 19 #[vR a1, vI f1, vI t2, vJ q0, .second, vI (f1 + (1 : Int32)), vI (sel c0 c1 c2 c3 c4 c5 (f1 + (1 : Int32)))] []))
          obtain ⟨d1, h_d1⟩ : ∃ z, z = (sel c0 c1 c2 c3 c4 c5 (f1 + (1 : Int32))) := ⟨_, rfl⟩
          rw [← h_d1]
          show Go p e below _ (T_244.setTop (mkF m 19 #[vR a1, vI f1, vI t2, vJ q0, .second, vI (f1 + (1 : Int32)), vI d1] []))
          refine Go.step (fun _ k => XS.iload X_244.here hx rfl (hb hby d_prog_1_method_2_code_19) rfl  k) ?_
          refine Go.step (fun _ k => XS.bipush X_244.here hx rfl (hb hby d_prog_1_method_2_code_21) k) ?_
          show Go p e below _ (T_244.setTop (mkF m 23 #[vR a1, vI f1, vI t2, vJ q0, .second, vI (f1 + (1 : Int32)), vI d1] [(.int (48 : Int32)), (.int d1)]))
          by_cases y1 : d1 < (48 : Int32)
          · skip
            refine Go.step (fun _ k => XS.icmpYes X_244.here hx rfl (pc0 := 23) (pc' := 33) rfl (hb hby d_prog_1_method_2_code_23) rfl (tlt y1).1 (by decide) (by decide) k) ?_
            show Go p e below _ (T_244.setTop (mkF m 33 #[vR a1, vI f1, vI t2, vJ q0, .second, vI (f1 + (1 : Int32)), vI d1] []))
            refine Go.step (fun _ k => X_244.ldc2Long hx hown (mvT hZ (wd_86 hw)) (g := (mkF m 33 #[vR a1, vI f1, vI t2, vJ q0, .second, vI (f1 + (1 : Int32)), vI d1] [])) rfl (hb hby d_prog_1_method_2_code_33) _ k) ?_
            show Go p e below _ (T_244.setTop (mkF m 36 #[vR a1, vI f1, vI t2, vJ q0, .second, vI (f1 + (1 : Int32)), vI d1] [(.long (-1 : Int64))]))
            exact Go.retV X_244 hx hlk hret rfl (Or.inr (Or.inl ⟨rfl, rfl, _, rfl⟩)) (hb hby d_prog_1_method_2_code_36) (by decide) (by decide) (by rw [e_244]; exact ⟨(by subst h_q0; subst h_d1; subst h_d0; simp only [rdF, x0, y0, z0, x1, y1, if_true, if_false, Int64.zero_mul]), N_244, rfl⟩)
          · skip
            refine Go.step (fun _ k => XS.icmpNo X_244.here hx rfl (hb hby d_prog_1_method_2_code_23) rfl (flt y1).1 k) ?_
            show Go p e below _ (T_244.setTop (mkF m 26 #[vR a1, vI f1, vI t2, vJ q0, .second, vI (f1 + (1 : Int32)), vI d1] []))
            refine Go.step (fun _ k => XS.iload X_244.here hx rfl (hb hby d_prog_1_method_2_code_26) rfl  k) ?_
            refine Go.step (fun _ k => XS.bipush X_244.here hx rfl (hb hby d_prog_1_method_2_code_28) k) ?_
            show Go p e below _ (T_244.setTop (mkF m 30 #[vR a1, vI f1, vI t2, vJ q0, .second, vI (f1 + (1 : Int32)), vI d1] [(.int (57 : Int32)), (.int d1)]))
            by_cases z1 : (57 : Int32) < d1
            · skip
              refine Go.step (fun _ k => XS.icmpNo X_244.here hx rfl (hb hby d_prog_1_method_2_code_30) rfl (tlt z1).2.2.2 k) ?_
              show Go p e below _ (T_244.setTop (mkF m 33 #[vR a1, vI f1, vI t2, vJ q0, .second, vI (f1 + (1 : Int32)), vI d1] []))
              refine Go.step (fun _ k => X_244.ldc2Long hx hown (mvT hZ (wd_86 hw)) (g := (mkF m 33 #[vR a1, vI f1, vI t2, vJ q0, .second, vI (f1 + (1 : Int32)), vI d1] [])) rfl (hb hby d_prog_1_method_2_code_33) _ k) ?_
              show Go p e below _ (T_244.setTop (mkF m 36 #[vR a1, vI f1, vI t2, vJ q0, .second, vI (f1 + (1 : Int32)), vI d1] [(.long (-1 : Int64))]))
              exact Go.retV X_244 hx hlk hret rfl (Or.inr (Or.inl ⟨rfl, rfl, _, rfl⟩)) (hb hby d_prog_1_method_2_code_36) (by decide) (by decide) (by rw [e_244]; exact ⟨(by subst h_q0; subst h_d1; subst h_d0; simp only [rdF, x0, y0, z0, x1, y1, z1, if_true, if_false, Int64.zero_mul]), N_244, rfl⟩)
            · skip
              refine Go.step (fun _ k => XS.icmpYes X_244.here hx rfl (pc0 := 30) (pc' := 37) rfl (hb hby d_prog_1_method_2_code_30) rfl (flt z1).2.2.2 (by decide) (by decide) k) ?_
              show Go p e below _ (T_244.setTop (mkF m 37 #[vR a1, vI f1, vI t2, vJ q0, .second, vI (f1 + (1 : Int32)), vI d1] []))
              refine Go.step (fun _ k => XS.lloadN X_244.here hx rfl (hb hby d_prog_1_method_2_code_37) rfl  k) ?_
              show Go p e below _ (T_244.setTop (mkF m 38 #[vR a1, vI f1, vI t2, vJ q0, .second, vI (f1 + (1 : Int32)), vI d1] [(.long q0)]))
              refine Go.step (fun _ k => X_244.ldc2Long hx hown (mvT hZ (wd_98 hw)) (g := (mkF m 38 #[vR a1, vI f1, vI t2, vJ q0, .second, vI (f1 + (1 : Int32)), vI d1] [(.long q0)])) rfl (hb hby d_prog_1_method_2_code_38) _ k) ?_
              show Go p e below _ (T_244.setTop (mkF m 41 #[vR a1, vI f1, vI t2, vJ q0, .second, vI (f1 + (1 : Int32)), vI d1] [(.long (10 : Int64)), (.long q0)]))
              refine Go.step (fun _ k => XS.lmul X_244.here hx rfl (hb hby d_prog_1_method_2_code_41) rfl k) ?_
              show Go p e below _ (T_244.setTop (mkF m 42 #[vR a1, vI f1, vI t2, vJ q0, .second, vI (f1 + (1 : Int32)), vI d1] [(.long (q0 * (10 : Int64)))]))
              refine Go.step (fun _ k => XS.iload X_244.here hx rfl (hb hby d_prog_1_method_2_code_42) rfl  k) ?_
              refine Go.step (fun _ k => XS.bipush X_244.here hx rfl (hb hby d_prog_1_method_2_code_44) k) ?_
              show Go p e below _ (T_244.setTop (mkF m 46 #[vR a1, vI f1, vI t2, vJ q0, .second, vI (f1 + (1 : Int32)), vI d1] [(.int (48 : Int32)), (.int d1), (.long (q0 * (10 : Int64)))]))
              refine Go.step (fun _ k => XS.isub X_244.here hx rfl (hb hby d_prog_1_method_2_code_46) rfl k) ?_
              show Go p e below _ (T_244.setTop (mkF m 47 #[vR a1, vI f1, vI t2, vJ q0, .second, vI (f1 + (1 : Int32)), vI d1] [(.int (d1 - (48 : Int32))), (.long (q0 * (10 : Int64)))]))
              refine Go.step (fun _ k => XS.i2l X_244.here hx rfl (hb hby d_prog_1_method_2_code_47) rfl k) ?_
              show Go p e below _ (T_244.setTop (mkF m 48 #[vR a1, vI f1, vI t2, vJ q0, .second, vI (f1 + (1 : Int32)), vI d1] [(.long (d1 - (48 : Int32)).toInt64), (.long (q0 * (10 : Int64)))]))
              refine Go.step (fun _ k => XS.ladd X_244.here hx rfl (hb hby d_prog_1_method_2_code_48) rfl k) ?_
              show Go p e below _ (T_244.setTop (mkF m 49 #[vR a1, vI f1, vI t2, vJ q0, .second, vI (f1 + (1 : Int32)), vI d1] [(.long ((q0 * (10 : Int64)) + (d1 - (48 : Int32)).toInt64))]))
              refine Go.step (fun _ k => XS.lstoreN X_244.here hx rfl (hb hby d_prog_1_method_2_code_49) rfl (l' := #[vR a1, vI f1, vI t2, vJ ((q0 * (10 : Int64)) + (d1 - (48 : Int32)).toInt64), .second, vI (f1 + (1 : Int32)), vI d1]) rfl k) ?_
              show Go p e below _ (T_244.setTop (mkF m 50 #[vR a1, vI f1, vI t2, vJ ((q0 * (10 : Int64)) + (d1 - (48 : Int32)).toInt64), .second, vI (f1 + (1 : Int32)), vI d1] []))
              obtain ⟨q1, h_q1⟩ : ∃ z, z = ((q0 * (10 : Int64)) + (d1 - (48 : Int32)).toInt64) := ⟨_, rfl⟩
              rw [← h_q1]
              show Go p e below _ (T_244.setTop (mkF m 50 #[vR a1, vI f1, vI t2, vJ q1, .second, vI (f1 + (1 : Int32)), vI d1] []))
              refine Go.step (fun _ k => XS.iinc X_244.here hx rfl (hb hby d_prog_1_method_2_code_50) rfl (l' := #[vR a1, vI f1, vI t2, vJ q1, .second, vI ((f1 + (1 : Int32)) + (1 : Int32)), vI d1]) rfl k) ?_
              show Go p e below _ (T_244.setTop (mkF m 53 #[vR a1, vI f1, vI t2, vJ q1, .second, vI ((f1 + (1 : Int32)) + (1 : Int32)), vI d1] []))
              refine Go.step (fun _ k => XS.goto X_244.here hx rfl (pc0 := 53) (pc' := 5) rfl (hb hby d_prog_1_method_2_code_53) (by decide) (by decide) k) ?_
              show Go p e below _ (T_244.setTop (mkF m 5 #[vR a1, vI f1, vI t2, vJ q1, .second, vI ((f1 + (1 : Int32)) + (1 : Int32)), vI d1] []))
              refine Go.step (fun _ k => XS.iload X_244.here hx rfl (hb hby d_prog_1_method_2_code_5) rfl  k) ?_
              refine Go.step (fun _ k => XS.iloadN X_244.here hx rfl (hb hby d_prog_1_method_2_code_7) rfl  k) ?_
              show Go p e below _ (T_244.setTop (mkF m 8 #[vR a1, vI f1, vI t2, vJ q1, .second, vI ((f1 + (1 : Int32)) + (1 : Int32)), vI d1] [(.int t2), (.int ((f1 + (1 : Int32)) + (1 : Int32)))]))
              by_cases x2 : ((f1 + (1 : Int32)) + (1 : Int32)) < t2
              · skip
                refine Go.step (fun _ k => XS.icmpNo X_244.here hx rfl (hb hby d_prog_1_method_2_code_8) rfl (tlt x2).2.1 k) ?_
                show Go p e below _ (T_244.setTop (mkF m 11 #[vR a1, vI f1, vI t2, vJ q1, .second, vI ((f1 + (1 : Int32)) + (1 : Int32)), vI d1] []))
                refine Go.step (fun _ k => XS.aloadN X_244.here hx rfl (hb hby d_prog_1_method_2_code_11) rfl rfl k) ?_
                refine Go.step (fun _ k => XS.iload X_244.here hx rfl (hb hby d_prog_1_method_2_code_12) rfl  k) ?_
                show Go p e below _ (T_244.setTop (mkF m 14 #[vR a1, vI f1, vI t2, vJ q1, .second, vI ((f1 + (1 : Int32)) + (1 : Int32)), vI d1] [(.int ((f1 + (1 : Int32)) + (1 : Int32))), (.ref a1)]))
                have k2' : ((f1 + (1 : Int32)) + (1 : Int32)).toInt = f1.toInt + 2 := k1
                have j2 : 0 ≤ ((f1 + (1 : Int32)) + (1 : Int32)).toInt ∧ ((f1 + (1 : Int32)) + (1 : Int32)).toInt < 6 := by have := hft; have q := x2; rw [Int32.lt_iff_toInt_lt] at q; omega
                have k2 : (((f1 + (1 : Int32)) + (1 : Int32)) + (1 : Int32)).toInt = f1.toInt + 3 := by have := plus1 k2' (by have := hft; omega); omega
                obtain ⟨v_245, T_245, L_245, X_245, hQ_245, st_245⟩ := goV X_244 hx hZ (y := Y_15) (z := Y_15) hown (wd_59 hw) (wd_60 hw) (notFace_of_selects (args := #[]) (mvT hZ (wd_62 hw))) (wd_62 hw) (wd_61 hw) (by decide) (backOf (W := 0) (rm_caL l Z a0 hw zc vfm (a1) (t1) (kt) c0 c1 c2 c3 c4 c5 (((f1 + (1 : Int32)) + (1 : Int32))) h0 n0 (Nat.le_trans Z0 KP0.1) E_a1 F_v F_c A_t h_c0 h_c1 h_c2 h_c3 h_c4 h_c5 l_c0 l_c1 l_c2 l_c3 l_c4 l_c5 j2 hSt hO) hZ (wd_63 hw) (wd_9 hw) (by decide) (by decide)) e_244 E_a1 (g := (mkF m 14 #[vR a1, vI f1, vI t2, vJ q1, .second, vI ((f1 + (1 : Int32)) + (1 : Int32)), vI d1] [(.int ((f1 + (1 : Int32)) + (1 : Int32))), (.ref a1)])) rfl (by rw [hml]; rfl) (argsL := [(.int ((f1 + (1 : Int32)) + (1 : Int32)))]) (rest := []) rfl (lenOf pd_13 rfl) rfl (by show 2 * 0 + _ ≤ _; exact Nat.le_of_eq rfl) (hb hby d_prog_1_method_2_code_14) (by decide) (by decide)
                obtain ⟨rfl, Nq_245, e_245⟩ := hQ_245
                have N_245 := Fr.app N_244 Nq_245
                refine Go.step st_245 ?_
                show Go p e below _ (T_245.setTop (mkF m 17 #[vR a1, vI f1, vI t2, vJ q1, .second, vI ((f1 + (1 : Int32)) + (1 : Int32)), vI d1] [(.int (sel c0 c1 c2 c3 c4 c5 ((f1 + (1 : Int32)) + (1 : Int32))))]))
                refine Go.step (fun _ k => XS.istore X_245.here hx rfl (hb hby d_prog_1_method_2_code_17) rfl (l' := #[vR a1, vI f1, vI t2, vJ q1, .second, vI ((f1 + (1 : Int32)) + (1 : Int32)), vI (sel c0 c1 c2 c3 c4 c5 ((f1 + (1 : Int32)) + (1 : Int32)))]) rfl k) ?_
                show Go p e below _ (T_245.setTop (mkF m 19 #[vR a1, vI f1, vI t2, vJ q1, .second, vI ((f1 + (1 : Int32)) + (1 : Int32)), vI (sel c0 c1 c2 c3 c4 c5 ((f1 + (1 : Int32)) + (1 : Int32)))] []))
                obtain ⟨d2, h_d2⟩ : ∃ z, z = (sel c0 c1 c2 c3 c4 c5 ((f1 + (1 : Int32)) + (1 : Int32))) := ⟨_, rfl⟩
                rw [← h_d2]
                show Go p e below _ (T_245.setTop (mkF m 19 #[vR a1, vI f1, vI t2, vJ q1, .second, vI ((f1 + (1 : Int32)) + (1 : Int32)), vI d2] []))
                refine Go.step (fun _ k => XS.iload X_245.here hx rfl (hb hby d_prog_1_method_2_code_19) rfl  k) ?_
                refine Go.step (fun _ k => XS.bipush X_245.here hx rfl (hb hby d_prog_1_method_2_code_21) k) ?_
                show Go p e below _ (T_245.setTop (mkF m 23 #[vR a1, vI f1, vI t2, vJ q1, .second, vI ((f1 + (1 : Int32)) + (1 : Int32)), vI d2] [(.int (48 : Int32)), (.int d2)]))
                by_cases y2 : d2 < (48 : Int32)
                · skip
                  refine Go.step (fun _ k => XS.icmpYes X_245.here hx rfl (pc0 := 23) (pc' := 33) rfl (hb hby d_prog_1_method_2_code_23) rfl (tlt y2).1 (by decide) (by decide) k) ?_
                  show Go p e below _ (T_245.setTop (mkF m 33 #[vR a1, vI f1, vI t2, vJ q1, .second, vI ((f1 + (1 : Int32)) + (1 : Int32)), vI d2] []))
                  refine Go.step (fun _ k => X_245.ldc2Long hx hown (mvT hZ (wd_86 hw)) (g := (mkF m 33 #[vR a1, vI f1, vI t2, vJ q1, .second, vI ((f1 + (1 : Int32)) + (1 : Int32)), vI d2] [])) rfl (hb hby d_prog_1_method_2_code_33) _ k) ?_
                  show Go p e below _ (T_245.setTop (mkF m 36 #[vR a1, vI f1, vI t2, vJ q1, .second, vI ((f1 + (1 : Int32)) + (1 : Int32)), vI d2] [(.long (-1 : Int64))]))
                  exact Go.retV X_245 hx hlk hret rfl (Or.inr (Or.inl ⟨rfl, rfl, _, rfl⟩)) (hb hby d_prog_1_method_2_code_36) (by decide) (by decide) (by rw [e_245]; exact ⟨(by subst h_q1; subst h_q0; subst h_d2; subst h_d1; subst h_d0; simp only [rdF, x0, y0, z0, x1, y1, z1, x2, y2, if_true, if_false, Int64.zero_mul]), N_245, rfl⟩)
                · skip
                  refine Go.step (fun _ k => XS.icmpNo X_245.here hx rfl (hb hby d_prog_1_method_2_code_23) rfl (flt y2).1 k) ?_
                  show Go p e below _ (T_245.setTop (mkF m 26 #[vR a1, vI f1, vI t2, vJ q1, .second, vI ((f1 + (1 : Int32)) + (1 : Int32)), vI d2] []))
                  refine Go.step (fun _ k => XS.iload X_245.here hx rfl (hb hby d_prog_1_method_2_code_26) rfl  k) ?_
                  refine Go.step (fun _ k => XS.bipush X_245.here hx rfl (hb hby d_prog_1_method_2_code_28) k) ?_
                  show Go p e below _ (T_245.setTop (mkF m 30 #[vR a1, vI f1, vI t2, vJ q1, .second, vI ((f1 + (1 : Int32)) + (1 : Int32)), vI d2] [(.int (57 : Int32)), (.int d2)]))
                  by_cases z2 : (57 : Int32) < d2
                  · skip
                    refine Go.step (fun _ k => XS.icmpNo X_245.here hx rfl (hb hby d_prog_1_method_2_code_30) rfl (tlt z2).2.2.2 k) ?_
                    show Go p e below _ (T_245.setTop (mkF m 33 #[vR a1, vI f1, vI t2, vJ q1, .second, vI ((f1 + (1 : Int32)) + (1 : Int32)), vI d2] []))
                    refine Go.step (fun _ k => X_245.ldc2Long hx hown (mvT hZ (wd_86 hw)) (g := (mkF m 33 #[vR a1, vI f1, vI t2, vJ q1, .second, vI ((f1 + (1 : Int32)) + (1 : Int32)), vI d2] [])) rfl (hb hby d_prog_1_method_2_code_33) _ k) ?_
                    show Go p e below _ (T_245.setTop (mkF m 36 #[vR a1, vI f1, vI t2, vJ q1, .second, vI ((f1 + (1 : Int32)) + (1 : Int32)), vI d2] [(.long (-1 : Int64))]))
                    exact Go.retV X_245 hx hlk hret rfl (Or.inr (Or.inl ⟨rfl, rfl, _, rfl⟩)) (hb hby d_prog_1_method_2_code_36) (by decide) (by decide) (by rw [e_245]; exact ⟨(by subst h_q1; subst h_q0; subst h_d2; subst h_d1; subst h_d0; simp only [rdF, x0, y0, z0, x1, y1, z1, x2, y2, z2, if_true, if_false, Int64.zero_mul]), N_245, rfl⟩)
                  · skip
                    refine Go.step (fun _ k => XS.icmpYes X_245.here hx rfl (pc0 := 30) (pc' := 37) rfl (hb hby d_prog_1_method_2_code_30) rfl (flt z2).2.2.2 (by decide) (by decide) k) ?_
                    show Go p e below _ (T_245.setTop (mkF m 37 #[vR a1, vI f1, vI t2, vJ q1, .second, vI ((f1 + (1 : Int32)) + (1 : Int32)), vI d2] []))
                    refine Go.step (fun _ k => XS.lloadN X_245.here hx rfl (hb hby d_prog_1_method_2_code_37) rfl  k) ?_
                    show Go p e below _ (T_245.setTop (mkF m 38 #[vR a1, vI f1, vI t2, vJ q1, .second, vI ((f1 + (1 : Int32)) + (1 : Int32)), vI d2] [(.long q1)]))
                    refine Go.step (fun _ k => X_245.ldc2Long hx hown (mvT hZ (wd_98 hw)) (g := (mkF m 38 #[vR a1, vI f1, vI t2, vJ q1, .second, vI ((f1 + (1 : Int32)) + (1 : Int32)), vI d2] [(.long q1)])) rfl (hb hby d_prog_1_method_2_code_38) _ k) ?_
                    show Go p e below _ (T_245.setTop (mkF m 41 #[vR a1, vI f1, vI t2, vJ q1, .second, vI ((f1 + (1 : Int32)) + (1 : Int32)), vI d2] [(.long (10 : Int64)), (.long q1)]))
                    refine Go.step (fun _ k => XS.lmul X_245.here hx rfl (hb hby d_prog_1_method_2_code_41) rfl k) ?_
                    show Go p e below _ (T_245.setTop (mkF m 42 #[vR a1, vI f1, vI t2, vJ q1, .second, vI ((f1 + (1 : Int32)) + (1 : Int32)), vI d2] [(.long (q1 * (10 : Int64)))]))
                    refine Go.step (fun _ k => XS.iload X_245.here hx rfl (hb hby d_prog_1_method_2_code_42) rfl  k) ?_
                    refine Go.step (fun _ k => XS.bipush X_245.here hx rfl (hb hby d_prog_1_method_2_code_44) k) ?_
                    show Go p e below _ (T_245.setTop (mkF m 46 #[vR a1, vI f1, vI t2, vJ q1, .second, vI ((f1 + (1 : Int32)) + (1 : Int32)), vI d2] [(.int (48 : Int32)), (.int d2), (.long (q1 * (10 : Int64)))]))
                    refine Go.step (fun _ k => XS.isub X_245.here hx rfl (hb hby d_prog_1_method_2_code_46) rfl k) ?_
                    show Go p e below _ (T_245.setTop (mkF m 47 #[vR a1, vI f1, vI t2, vJ q1, .second, vI ((f1 + (1 : Int32)) + (1 : Int32)), vI d2] [(.int (d2 - (48 : Int32))), (.long (q1 * (10 : Int64)))]))
                    refine Go.step (fun _ k => XS.i2l X_245.here hx rfl (hb hby d_prog_1_method_2_code_47) rfl k) ?_
                    show Go p e below _ (T_245.setTop (mkF m 48 #[vR a1, vI f1, vI t2, vJ q1, .second, vI ((f1 + (1 : Int32)) + (1 : Int32)), vI d2] [(.long (d2 - (48 : Int32)).toInt64), (.long (q1 * (10 : Int64)))]))
                    refine Go.step (fun _ k => XS.ladd X_245.here hx rfl (hb hby d_prog_1_method_2_code_48) rfl k) ?_
                    show Go p e below _ (T_245.setTop (mkF m 49 #[vR a1, vI f1, vI t2, vJ q1, .second, vI ((f1 + (1 : Int32)) + (1 : Int32)), vI d2] [(.long ((q1 * (10 : Int64)) + (d2 - (48 : Int32)).toInt64))]))
                    refine Go.step (fun _ k => XS.lstoreN X_245.here hx rfl (hb hby d_prog_1_method_2_code_49) rfl (l' := #[vR a1, vI f1, vI t2, vJ ((q1 * (10 : Int64)) + (d2 - (48 : Int32)).toInt64), .second, vI ((f1 + (1 : Int32)) + (1 : Int32)), vI d2]) rfl k) ?_
                    show Go p e below _ (T_245.setTop (mkF m 50 #[vR a1, vI f1, vI t2, vJ ((q1 * (10 : Int64)) + (d2 - (48 : Int32)).toInt64), .second, vI ((f1 + (1 : Int32)) + (1 : Int32)), vI d2] []))
                    obtain ⟨q2, h_q2⟩ : ∃ z, z = ((q1 * (10 : Int64)) + (d2 - (48 : Int32)).toInt64) := ⟨_, rfl⟩
                    rw [← h_q2]
                    show Go p e below _ (T_245.setTop (mkF m 50 #[vR a1, vI f1, vI t2, vJ q2, .second, vI ((f1 + (1 : Int32)) + (1 : Int32)), vI d2] []))
                    refine Go.step (fun _ k => XS.iinc X_245.here hx rfl (hb hby d_prog_1_method_2_code_50) rfl (l' := #[vR a1, vI f1, vI t2, vJ q2, .second, vI (((f1 + (1 : Int32)) + (1 : Int32)) + (1 : Int32)), vI d2]) rfl k) ?_
                    show Go p e below _ (T_245.setTop (mkF m 53 #[vR a1, vI f1, vI t2, vJ q2, .second, vI (((f1 + (1 : Int32)) + (1 : Int32)) + (1 : Int32)), vI d2] []))
                    refine Go.step (fun _ k => XS.goto X_245.here hx rfl (pc0 := 53) (pc' := 5) rfl (hb hby d_prog_1_method_2_code_53) (by decide) (by decide) k) ?_
                    show Go p e below _ (T_245.setTop (mkF m 5 #[vR a1, vI f1, vI t2, vJ q2, .second, vI (((f1 + (1 : Int32)) + (1 : Int32)) + (1 : Int32)), vI d2] []))
                    refine Go.step (fun _ k => XS.iload X_245.here hx rfl (hb hby d_prog_1_method_2_code_5) rfl  k) ?_
                    refine Go.step (fun _ k => XS.iloadN X_245.here hx rfl (hb hby d_prog_1_method_2_code_7) rfl  k) ?_
                    show Go p e below _ (T_245.setTop (mkF m 8 #[vR a1, vI f1, vI t2, vJ q2, .second, vI (((f1 + (1 : Int32)) + (1 : Int32)) + (1 : Int32)), vI d2] [(.int t2), (.int (((f1 + (1 : Int32)) + (1 : Int32)) + (1 : Int32)))]))
                    by_cases x3 : (((f1 + (1 : Int32)) + (1 : Int32)) + (1 : Int32)) < t2
                    · skip
                      refine Go.step (fun _ k => XS.icmpNo X_245.here hx rfl (hb hby d_prog_1_method_2_code_8) rfl (tlt x3).2.1 k) ?_
                      show Go p e below _ (T_245.setTop (mkF m 11 #[vR a1, vI f1, vI t2, vJ q2, .second, vI (((f1 + (1 : Int32)) + (1 : Int32)) + (1 : Int32)), vI d2] []))
                      refine Go.step (fun _ k => XS.aloadN X_245.here hx rfl (hb hby d_prog_1_method_2_code_11) rfl rfl k) ?_
                      refine Go.step (fun _ k => XS.iload X_245.here hx rfl (hb hby d_prog_1_method_2_code_12) rfl  k) ?_
                      show Go p e below _ (T_245.setTop (mkF m 14 #[vR a1, vI f1, vI t2, vJ q2, .second, vI (((f1 + (1 : Int32)) + (1 : Int32)) + (1 : Int32)), vI d2] [(.int (((f1 + (1 : Int32)) + (1 : Int32)) + (1 : Int32))), (.ref a1)]))
                      have k3' : (((f1 + (1 : Int32)) + (1 : Int32)) + (1 : Int32)).toInt = f1.toInt + 3 := k2
                      have j3 : 0 ≤ (((f1 + (1 : Int32)) + (1 : Int32)) + (1 : Int32)).toInt ∧ (((f1 + (1 : Int32)) + (1 : Int32)) + (1 : Int32)).toInt < 6 := by have := hft; have q := x3; rw [Int32.lt_iff_toInt_lt] at q; omega
                      have k3 : ((((f1 + (1 : Int32)) + (1 : Int32)) + (1 : Int32)) + (1 : Int32)).toInt = f1.toInt + 4 := by have := plus1 k3' (by have := hft; omega); omega
                      obtain ⟨v_246, T_246, L_246, X_246, hQ_246, st_246⟩ := goV X_245 hx hZ (y := Y_15) (z := Y_15) hown (wd_59 hw) (wd_60 hw) (notFace_of_selects (args := #[]) (mvT hZ (wd_62 hw))) (wd_62 hw) (wd_61 hw) (by decide) (backOf (W := 0) (rm_caL l Z a0 hw zc vfm (a1) (t1) (kt) c0 c1 c2 c3 c4 c5 ((((f1 + (1 : Int32)) + (1 : Int32)) + (1 : Int32))) h0 n0 (Nat.le_trans Z0 KP0.1) E_a1 F_v F_c A_t h_c0 h_c1 h_c2 h_c3 h_c4 h_c5 l_c0 l_c1 l_c2 l_c3 l_c4 l_c5 j3 hSt hO) hZ (wd_63 hw) (wd_9 hw) (by decide) (by decide)) e_245 E_a1 (g := (mkF m 14 #[vR a1, vI f1, vI t2, vJ q2, .second, vI (((f1 + (1 : Int32)) + (1 : Int32)) + (1 : Int32)), vI d2] [(.int (((f1 + (1 : Int32)) + (1 : Int32)) + (1 : Int32))), (.ref a1)])) rfl (by rw [hml]; rfl) (argsL := [(.int (((f1 + (1 : Int32)) + (1 : Int32)) + (1 : Int32)))]) (rest := []) rfl (lenOf pd_13 rfl) rfl (by show 2 * 0 + _ ≤ _; exact Nat.le_of_eq rfl) (hb hby d_prog_1_method_2_code_14) (by decide) (by decide)
                      obtain ⟨rfl, Nq_246, e_246⟩ := hQ_246
                      have N_246 := Fr.app N_245 Nq_246
                      refine Go.step st_246 ?_
                      show Go p e below _ (T_246.setTop (mkF m 17 #[vR a1, vI f1, vI t2, vJ q2, .second, vI (((f1 + (1 : Int32)) + (1 : Int32)) + (1 : Int32)), vI d2] [(.int (sel c0 c1 c2 c3 c4 c5 (((f1 + (1 : Int32)) + (1 : Int32)) + (1 : Int32))))]))
                      refine Go.step (fun _ k => XS.istore X_246.here hx rfl (hb hby d_prog_1_method_2_code_17) rfl (l' := #[vR a1, vI f1, vI t2, vJ q2, .second, vI (((f1 + (1 : Int32)) + (1 : Int32)) + (1 : Int32)), vI (sel c0 c1 c2 c3 c4 c5 (((f1 + (1 : Int32)) + (1 : Int32)) + (1 : Int32)))]) rfl k) ?_
                      show Go p e below _ (T_246.setTop (mkF m 19 #[vR a1, vI f1, vI t2, vJ q2, .second, vI (((f1 + (1 : Int32)) + (1 : Int32)) + (1 : Int32)), vI (sel c0 c1 c2 c3 c4 c5 (((f1 + (1 : Int32)) + (1 : Int32)) + (1 : Int32)))] []))
                      obtain ⟨d3, h_d3⟩ : ∃ z, z = (sel c0 c1 c2 c3 c4 c5 (((f1 + (1 : Int32)) + (1 : Int32)) + (1 : Int32))) := ⟨_, rfl⟩
                      rw [← h_d3]
                      show Go p e below _ (T_246.setTop (mkF m 19 #[vR a1, vI f1, vI t2, vJ q2, .second, vI (((f1 + (1 : Int32)) + (1 : Int32)) + (1 : Int32)), vI d3] []))
                      refine Go.step (fun _ k => XS.iload X_246.here hx rfl (hb hby d_prog_1_method_2_code_19) rfl  k) ?_
                      refine Go.step (fun _ k => XS.bipush X_246.here hx rfl (hb hby d_prog_1_method_2_code_21) k) ?_
                      show Go p e below _ (T_246.setTop (mkF m 23 #[vR a1, vI f1, vI t2, vJ q2, .second, vI (((f1 + (1 : Int32)) + (1 : Int32)) + (1 : Int32)), vI d3] [(.int (48 : Int32)), (.int d3)]))
                      by_cases y3 : d3 < (48 : Int32)
                      · skip
                        refine Go.step (fun _ k => XS.icmpYes X_246.here hx rfl (pc0 := 23) (pc' := 33) rfl (hb hby d_prog_1_method_2_code_23) rfl (tlt y3).1 (by decide) (by decide) k) ?_
                        show Go p e below _ (T_246.setTop (mkF m 33 #[vR a1, vI f1, vI t2, vJ q2, .second, vI (((f1 + (1 : Int32)) + (1 : Int32)) + (1 : Int32)), vI d3] []))
                        refine Go.step (fun _ k => X_246.ldc2Long hx hown (mvT hZ (wd_86 hw)) (g := (mkF m 33 #[vR a1, vI f1, vI t2, vJ q2, .second, vI (((f1 + (1 : Int32)) + (1 : Int32)) + (1 : Int32)), vI d3] [])) rfl (hb hby d_prog_1_method_2_code_33) _ k) ?_
                        show Go p e below _ (T_246.setTop (mkF m 36 #[vR a1, vI f1, vI t2, vJ q2, .second, vI (((f1 + (1 : Int32)) + (1 : Int32)) + (1 : Int32)), vI d3] [(.long (-1 : Int64))]))
                        exact Go.retV X_246 hx hlk hret rfl (Or.inr (Or.inl ⟨rfl, rfl, _, rfl⟩)) (hb hby d_prog_1_method_2_code_36) (by decide) (by decide) (by rw [e_246]; exact ⟨(by subst h_q2; subst h_q1; subst h_q0; subst h_d3; subst h_d2; subst h_d1; subst h_d0; simp only [rdF, x0, y0, z0, x1, y1, z1, x2, y2, z2, x3, y3, if_true, if_false, Int64.zero_mul]), N_246, rfl⟩)
                      · skip
                        refine Go.step (fun _ k => XS.icmpNo X_246.here hx rfl (hb hby d_prog_1_method_2_code_23) rfl (flt y3).1 k) ?_
                        show Go p e below _ (T_246.setTop (mkF m 26 #[vR a1, vI f1, vI t2, vJ q2, .second, vI (((f1 + (1 : Int32)) + (1 : Int32)) + (1 : Int32)), vI d3] []))
                        refine Go.step (fun _ k => XS.iload X_246.here hx rfl (hb hby d_prog_1_method_2_code_26) rfl  k) ?_
                        refine Go.step (fun _ k => XS.bipush X_246.here hx rfl (hb hby d_prog_1_method_2_code_28) k) ?_
                        show Go p e below _ (T_246.setTop (mkF m 30 #[vR a1, vI f1, vI t2, vJ q2, .second, vI (((f1 + (1 : Int32)) + (1 : Int32)) + (1 : Int32)), vI d3] [(.int (57 : Int32)), (.int d3)]))
                        by_cases z3 : (57 : Int32) < d3
                        · skip
                          refine Go.step (fun _ k => XS.icmpNo X_246.here hx rfl (hb hby d_prog_1_method_2_code_30) rfl (tlt z3).2.2.2 k) ?_
                          show Go p e below _ (T_246.setTop (mkF m 33 #[vR a1, vI f1, vI t2, vJ q2, .second, vI (((f1 + (1 : Int32)) + (1 : Int32)) + (1 : Int32)), vI d3] []))
                          refine Go.step (fun _ k => X_246.ldc2Long hx hown (mvT hZ (wd_86 hw)) (g := (mkF m 33 #[vR a1, vI f1, vI t2, vJ q2, .second, vI (((f1 + (1 : Int32)) + (1 : Int32)) + (1 : Int32)), vI d3] [])) rfl (hb hby d_prog_1_method_2_code_33) _ k) ?_
                          show Go p e below _ (T_246.setTop (mkF m 36 #[vR a1, vI f1, vI t2, vJ q2, .second, vI (((f1 + (1 : Int32)) + (1 : Int32)) + (1 : Int32)), vI d3] [(.long (-1 : Int64))]))
                          exact Go.retV X_246 hx hlk hret rfl (Or.inr (Or.inl ⟨rfl, rfl, _, rfl⟩)) (hb hby d_prog_1_method_2_code_36) (by decide) (by decide) (by rw [e_246]; exact ⟨(by subst h_q2; subst h_q1; subst h_q0; subst h_d3; subst h_d2; subst h_d1; subst h_d0; simp only [rdF, x0, y0, z0, x1, y1, z1, x2, y2, z2, x3, y3, z3, if_true, if_false, Int64.zero_mul]), N_246, rfl⟩)
                        · skip
                          refine Go.step (fun _ k => XS.icmpYes X_246.here hx rfl (pc0 := 30) (pc' := 37) rfl (hb hby d_prog_1_method_2_code_30) rfl (flt z3).2.2.2 (by decide) (by decide) k) ?_
                          show Go p e below _ (T_246.setTop (mkF m 37 #[vR a1, vI f1, vI t2, vJ q2, .second, vI (((f1 + (1 : Int32)) + (1 : Int32)) + (1 : Int32)), vI d3] []))
                          refine Go.step (fun _ k => XS.lloadN X_246.here hx rfl (hb hby d_prog_1_method_2_code_37) rfl  k) ?_
                          show Go p e below _ (T_246.setTop (mkF m 38 #[vR a1, vI f1, vI t2, vJ q2, .second, vI (((f1 + (1 : Int32)) + (1 : Int32)) + (1 : Int32)), vI d3] [(.long q2)]))
                          refine Go.step (fun _ k => X_246.ldc2Long hx hown (mvT hZ (wd_98 hw)) (g := (mkF m 38 #[vR a1, vI f1, vI t2, vJ q2, .second, vI (((f1 + (1 : Int32)) + (1 : Int32)) + (1 : Int32)), vI d3] [(.long q2)])) rfl (hb hby d_prog_1_method_2_code_38) _ k) ?_
                          show Go p e below _ (T_246.setTop (mkF m 41 #[vR a1, vI f1, vI t2, vJ q2, .second, vI (((f1 + (1 : Int32)) + (1 : Int32)) + (1 : Int32)), vI d3] [(.long (10 : Int64)), (.long q2)]))
                          refine Go.step (fun _ k => XS.lmul X_246.here hx rfl (hb hby d_prog_1_method_2_code_41) rfl k) ?_
                          show Go p e below _ (T_246.setTop (mkF m 42 #[vR a1, vI f1, vI t2, vJ q2, .second, vI (((f1 + (1 : Int32)) + (1 : Int32)) + (1 : Int32)), vI d3] [(.long (q2 * (10 : Int64)))]))
                          refine Go.step (fun _ k => XS.iload X_246.here hx rfl (hb hby d_prog_1_method_2_code_42) rfl  k) ?_
                          refine Go.step (fun _ k => XS.bipush X_246.here hx rfl (hb hby d_prog_1_method_2_code_44) k) ?_
                          show Go p e below _ (T_246.setTop (mkF m 46 #[vR a1, vI f1, vI t2, vJ q2, .second, vI (((f1 + (1 : Int32)) + (1 : Int32)) + (1 : Int32)), vI d3] [(.int (48 : Int32)), (.int d3), (.long (q2 * (10 : Int64)))]))
                          refine Go.step (fun _ k => XS.isub X_246.here hx rfl (hb hby d_prog_1_method_2_code_46) rfl k) ?_
                          show Go p e below _ (T_246.setTop (mkF m 47 #[vR a1, vI f1, vI t2, vJ q2, .second, vI (((f1 + (1 : Int32)) + (1 : Int32)) + (1 : Int32)), vI d3] [(.int (d3 - (48 : Int32))), (.long (q2 * (10 : Int64)))]))
                          refine Go.step (fun _ k => XS.i2l X_246.here hx rfl (hb hby d_prog_1_method_2_code_47) rfl k) ?_
                          show Go p e below _ (T_246.setTop (mkF m 48 #[vR a1, vI f1, vI t2, vJ q2, .second, vI (((f1 + (1 : Int32)) + (1 : Int32)) + (1 : Int32)), vI d3] [(.long (d3 - (48 : Int32)).toInt64), (.long (q2 * (10 : Int64)))]))
                          refine Go.step (fun _ k => XS.ladd X_246.here hx rfl (hb hby d_prog_1_method_2_code_48) rfl k) ?_
                          show Go p e below _ (T_246.setTop (mkF m 49 #[vR a1, vI f1, vI t2, vJ q2, .second, vI (((f1 + (1 : Int32)) + (1 : Int32)) + (1 : Int32)), vI d3] [(.long ((q2 * (10 : Int64)) + (d3 - (48 : Int32)).toInt64))]))
                          refine Go.step (fun _ k => XS.lstoreN X_246.here hx rfl (hb hby d_prog_1_method_2_code_49) rfl (l' := #[vR a1, vI f1, vI t2, vJ ((q2 * (10 : Int64)) + (d3 - (48 : Int32)).toInt64), .second, vI (((f1 + (1 : Int32)) + (1 : Int32)) + (1 : Int32)), vI d3]) rfl k) ?_
                          show Go p e below _ (T_246.setTop (mkF m 50 #[vR a1, vI f1, vI t2, vJ ((q2 * (10 : Int64)) + (d3 - (48 : Int32)).toInt64), .second, vI (((f1 + (1 : Int32)) + (1 : Int32)) + (1 : Int32)), vI d3] []))
                          obtain ⟨q3, h_q3⟩ : ∃ z, z = ((q2 * (10 : Int64)) + (d3 - (48 : Int32)).toInt64) := ⟨_, rfl⟩
                          rw [← h_q3]
                          show Go p e below _ (T_246.setTop (mkF m 50 #[vR a1, vI f1, vI t2, vJ q3, .second, vI (((f1 + (1 : Int32)) + (1 : Int32)) + (1 : Int32)), vI d3] []))
                          refine Go.step (fun _ k => XS.iinc X_246.here hx rfl (hb hby d_prog_1_method_2_code_50) rfl (l' := #[vR a1, vI f1, vI t2, vJ q3, .second, vI ((((f1 + (1 : Int32)) + (1 : Int32)) + (1 : Int32)) + (1 : Int32)), vI d3]) rfl k) ?_
                          show Go p e below _ (T_246.setTop (mkF m 53 #[vR a1, vI f1, vI t2, vJ q3, .second, vI ((((f1 + (1 : Int32)) + (1 : Int32)) + (1 : Int32)) + (1 : Int32)), vI d3] []))
                          refine Go.step (fun _ k => XS.goto X_246.here hx rfl (pc0 := 53) (pc' := 5) rfl (hb hby d_prog_1_method_2_code_53) (by decide) (by decide) k) ?_
                          show Go p e below _ (T_246.setTop (mkF m 5 #[vR a1, vI f1, vI t2, vJ q3, .second, vI ((((f1 + (1 : Int32)) + (1 : Int32)) + (1 : Int32)) + (1 : Int32)), vI d3] []))
                          refine Go.step (fun _ k => XS.iload X_246.here hx rfl (hb hby d_prog_1_method_2_code_5) rfl  k) ?_
                          refine Go.step (fun _ k => XS.iloadN X_246.here hx rfl (hb hby d_prog_1_method_2_code_7) rfl  k) ?_
                          show Go p e below _ (T_246.setTop (mkF m 8 #[vR a1, vI f1, vI t2, vJ q3, .second, vI ((((f1 + (1 : Int32)) + (1 : Int32)) + (1 : Int32)) + (1 : Int32)), vI d3] [(.int t2), (.int ((((f1 + (1 : Int32)) + (1 : Int32)) + (1 : Int32)) + (1 : Int32)))]))
                          by_cases x4 : ((((f1 + (1 : Int32)) + (1 : Int32)) + (1 : Int32)) + (1 : Int32)) < t2
                          · skip
                            refine Go.step (fun _ k => XS.icmpNo X_246.here hx rfl (hb hby d_prog_1_method_2_code_8) rfl (tlt x4).2.1 k) ?_
                            show Go p e below _ (T_246.setTop (mkF m 11 #[vR a1, vI f1, vI t2, vJ q3, .second, vI ((((f1 + (1 : Int32)) + (1 : Int32)) + (1 : Int32)) + (1 : Int32)), vI d3] []))
                            refine Go.step (fun _ k => XS.aloadN X_246.here hx rfl (hb hby d_prog_1_method_2_code_11) rfl rfl k) ?_
                            refine Go.step (fun _ k => XS.iload X_246.here hx rfl (hb hby d_prog_1_method_2_code_12) rfl  k) ?_
                            show Go p e below _ (T_246.setTop (mkF m 14 #[vR a1, vI f1, vI t2, vJ q3, .second, vI ((((f1 + (1 : Int32)) + (1 : Int32)) + (1 : Int32)) + (1 : Int32)), vI d3] [(.int ((((f1 + (1 : Int32)) + (1 : Int32)) + (1 : Int32)) + (1 : Int32))), (.ref a1)]))
                            have k4' : ((((f1 + (1 : Int32)) + (1 : Int32)) + (1 : Int32)) + (1 : Int32)).toInt = f1.toInt + 4 := k3
                            have j4 : 0 ≤ ((((f1 + (1 : Int32)) + (1 : Int32)) + (1 : Int32)) + (1 : Int32)).toInt ∧ ((((f1 + (1 : Int32)) + (1 : Int32)) + (1 : Int32)) + (1 : Int32)).toInt < 6 := by have := hft; have q := x4; rw [Int32.lt_iff_toInt_lt] at q; omega
                            have k4 : (((((f1 + (1 : Int32)) + (1 : Int32)) + (1 : Int32)) + (1 : Int32)) + (1 : Int32)).toInt = f1.toInt + 5 := by have := plus1 k4' (by have := hft; omega); omega
                            obtain ⟨v_247, T_247, L_247, X_247, hQ_247, st_247⟩ := goV X_246 hx hZ (y := Y_15) (z := Y_15) hown (wd_59 hw) (wd_60 hw) (notFace_of_selects (args := #[]) (mvT hZ (wd_62 hw))) (wd_62 hw) (wd_61 hw) (by decide) (backOf (W := 0) (rm_caL l Z a0 hw zc vfm (a1) (t1) (kt) c0 c1 c2 c3 c4 c5 (((((f1 + (1 : Int32)) + (1 : Int32)) + (1 : Int32)) + (1 : Int32))) h0 n0 (Nat.le_trans Z0 KP0.1) E_a1 F_v F_c A_t h_c0 h_c1 h_c2 h_c3 h_c4 h_c5 l_c0 l_c1 l_c2 l_c3 l_c4 l_c5 j4 hSt hO) hZ (wd_63 hw) (wd_9 hw) (by decide) (by decide)) e_246 E_a1 (g := (mkF m 14 #[vR a1, vI f1, vI t2, vJ q3, .second, vI ((((f1 + (1 : Int32)) + (1 : Int32)) + (1 : Int32)) + (1 : Int32)), vI d3] [(.int ((((f1 + (1 : Int32)) + (1 : Int32)) + (1 : Int32)) + (1 : Int32))), (.ref a1)])) rfl (by rw [hml]; rfl) (argsL := [(.int ((((f1 + (1 : Int32)) + (1 : Int32)) + (1 : Int32)) + (1 : Int32)))]) (rest := []) rfl (lenOf pd_13 rfl) rfl (by show 2 * 0 + _ ≤ _; exact Nat.le_of_eq rfl) (hb hby d_prog_1_method_2_code_14) (by decide) (by decide)
                            obtain ⟨rfl, Nq_247, e_247⟩ := hQ_247
                            have N_247 := Fr.app N_246 Nq_247
                            refine Go.step st_247 ?_
                            show Go p e below _ (T_247.setTop (mkF m 17 #[vR a1, vI f1, vI t2, vJ q3, .second, vI ((((f1 + (1 : Int32)) + (1 : Int32)) + (1 : Int32)) + (1 : Int32)), vI d3] [(.int (sel c0 c1 c2 c3 c4 c5 ((((f1 + (1 : Int32)) + (1 : Int32)) + (1 : Int32)) + (1 : Int32))))]))
                            refine Go.step (fun _ k => XS.istore X_247.here hx rfl (hb hby d_prog_1_method_2_code_17) rfl (l' := #[vR a1, vI f1, vI t2, vJ q3, .second, vI ((((f1 + (1 : Int32)) + (1 : Int32)) + (1 : Int32)) + (1 : Int32)), vI (sel c0 c1 c2 c3 c4 c5 ((((f1 + (1 : Int32)) + (1 : Int32)) + (1 : Int32)) + (1 : Int32)))]) rfl k) ?_
                            show Go p e below _ (T_247.setTop (mkF m 19 #[vR a1, vI f1, vI t2, vJ q3, .second, vI ((((f1 + (1 : Int32)) + (1 : Int32)) + (1 : Int32)) + (1 : Int32)), vI (sel c0 c1 c2 c3 c4 c5 ((((f1 + (1 : Int32)) + (1 : Int32)) + (1 : Int32)) + (1 : Int32)))] []))
                            obtain ⟨d4, h_d4⟩ : ∃ z, z = (sel c0 c1 c2 c3 c4 c5 ((((f1 + (1 : Int32)) + (1 : Int32)) + (1 : Int32)) + (1 : Int32))) := ⟨_, rfl⟩
                            rw [← h_d4]
                            show Go p e below _ (T_247.setTop (mkF m 19 #[vR a1, vI f1, vI t2, vJ q3, .second, vI ((((f1 + (1 : Int32)) + (1 : Int32)) + (1 : Int32)) + (1 : Int32)), vI d4] []))
                            refine Go.step (fun _ k => XS.iload X_247.here hx rfl (hb hby d_prog_1_method_2_code_19) rfl  k) ?_
                            refine Go.step (fun _ k => XS.bipush X_247.here hx rfl (hb hby d_prog_1_method_2_code_21) k) ?_
                            show Go p e below _ (T_247.setTop (mkF m 23 #[vR a1, vI f1, vI t2, vJ q3, .second, vI ((((f1 + (1 : Int32)) + (1 : Int32)) + (1 : Int32)) + (1 : Int32)), vI d4] [(.int (48 : Int32)), (.int d4)]))
                            by_cases y4 : d4 < (48 : Int32)
                            · skip
                              refine Go.step (fun _ k => XS.icmpYes X_247.here hx rfl (pc0 := 23) (pc' := 33) rfl (hb hby d_prog_1_method_2_code_23) rfl (tlt y4).1 (by decide) (by decide) k) ?_
                              show Go p e below _ (T_247.setTop (mkF m 33 #[vR a1, vI f1, vI t2, vJ q3, .second, vI ((((f1 + (1 : Int32)) + (1 : Int32)) + (1 : Int32)) + (1 : Int32)), vI d4] []))
                              refine Go.step (fun _ k => X_247.ldc2Long hx hown (mvT hZ (wd_86 hw)) (g := (mkF m 33 #[vR a1, vI f1, vI t2, vJ q3, .second, vI ((((f1 + (1 : Int32)) + (1 : Int32)) + (1 : Int32)) + (1 : Int32)), vI d4] [])) rfl (hb hby d_prog_1_method_2_code_33) _ k) ?_
                              show Go p e below _ (T_247.setTop (mkF m 36 #[vR a1, vI f1, vI t2, vJ q3, .second, vI ((((f1 + (1 : Int32)) + (1 : Int32)) + (1 : Int32)) + (1 : Int32)), vI d4] [(.long (-1 : Int64))]))
                              exact Go.retV X_247 hx hlk hret rfl (Or.inr (Or.inl ⟨rfl, rfl, _, rfl⟩)) (hb hby d_prog_1_method_2_code_36) (by decide) (by decide) (by rw [e_247]; exact ⟨(by subst h_q3; subst h_q2; subst h_q1; subst h_q0; subst h_d4; subst h_d3; subst h_d2; subst h_d1; subst h_d0; simp only [rdF, x0, y0, z0, x1, y1, z1, x2, y2, z2, x3, y3, z3, x4, y4, if_true, if_false, Int64.zero_mul]), N_247, rfl⟩)
                            · skip
                              refine Go.step (fun _ k => XS.icmpNo X_247.here hx rfl (hb hby d_prog_1_method_2_code_23) rfl (flt y4).1 k) ?_
                              show Go p e below _ (T_247.setTop (mkF m 26 #[vR a1, vI f1, vI t2, vJ q3, .second, vI ((((f1 + (1 : Int32)) + (1 : Int32)) + (1 : Int32)) + (1 : Int32)), vI d4] []))
                              refine Go.step (fun _ k => XS.iload X_247.here hx rfl (hb hby d_prog_1_method_2_code_26) rfl  k) ?_
                              refine Go.step (fun _ k => XS.bipush X_247.here hx rfl (hb hby d_prog_1_method_2_code_28) k) ?_
                              show Go p e below _ (T_247.setTop (mkF m 30 #[vR a1, vI f1, vI t2, vJ q3, .second, vI ((((f1 + (1 : Int32)) + (1 : Int32)) + (1 : Int32)) + (1 : Int32)), vI d4] [(.int (57 : Int32)), (.int d4)]))
                              by_cases z4 : (57 : Int32) < d4
                              · skip
                                refine Go.step (fun _ k => XS.icmpNo X_247.here hx rfl (hb hby d_prog_1_method_2_code_30) rfl (tlt z4).2.2.2 k) ?_
                                show Go p e below _ (T_247.setTop (mkF m 33 #[vR a1, vI f1, vI t2, vJ q3, .second, vI ((((f1 + (1 : Int32)) + (1 : Int32)) + (1 : Int32)) + (1 : Int32)), vI d4] []))
                                refine Go.step (fun _ k => X_247.ldc2Long hx hown (mvT hZ (wd_86 hw)) (g := (mkF m 33 #[vR a1, vI f1, vI t2, vJ q3, .second, vI ((((f1 + (1 : Int32)) + (1 : Int32)) + (1 : Int32)) + (1 : Int32)), vI d4] [])) rfl (hb hby d_prog_1_method_2_code_33) _ k) ?_
                                show Go p e below _ (T_247.setTop (mkF m 36 #[vR a1, vI f1, vI t2, vJ q3, .second, vI ((((f1 + (1 : Int32)) + (1 : Int32)) + (1 : Int32)) + (1 : Int32)), vI d4] [(.long (-1 : Int64))]))
                                exact Go.retV X_247 hx hlk hret rfl (Or.inr (Or.inl ⟨rfl, rfl, _, rfl⟩)) (hb hby d_prog_1_method_2_code_36) (by decide) (by decide) (by rw [e_247]; exact ⟨(by subst h_q3; subst h_q2; subst h_q1; subst h_q0; subst h_d4; subst h_d3; subst h_d2; subst h_d1; subst h_d0; simp only [rdF, x0, y0, z0, x1, y1, z1, x2, y2, z2, x3, y3, z3, x4, y4, z4, if_true, if_false, Int64.zero_mul]), N_247, rfl⟩)
                              · skip
                                refine Go.step (fun _ k => XS.icmpYes X_247.here hx rfl (pc0 := 30) (pc' := 37) rfl (hb hby d_prog_1_method_2_code_30) rfl (flt z4).2.2.2 (by decide) (by decide) k) ?_
                                show Go p e below _ (T_247.setTop (mkF m 37 #[vR a1, vI f1, vI t2, vJ q3, .second, vI ((((f1 + (1 : Int32)) + (1 : Int32)) + (1 : Int32)) + (1 : Int32)), vI d4] []))
                                refine Go.step (fun _ k => XS.lloadN X_247.here hx rfl (hb hby d_prog_1_method_2_code_37) rfl  k) ?_
                                show Go p e below _ (T_247.setTop (mkF m 38 #[vR a1, vI f1, vI t2, vJ q3, .second, vI ((((f1 + (1 : Int32)) + (1 : Int32)) + (1 : Int32)) + (1 : Int32)), vI d4] [(.long q3)]))
                                refine Go.step (fun _ k => X_247.ldc2Long hx hown (mvT hZ (wd_98 hw)) (g := (mkF m 38 #[vR a1, vI f1, vI t2, vJ q3, .second, vI ((((f1 + (1 : Int32)) + (1 : Int32)) + (1 : Int32)) + (1 : Int32)), vI d4] [(.long q3)])) rfl (hb hby d_prog_1_method_2_code_38) _ k) ?_
                                show Go p e below _ (T_247.setTop (mkF m 41 #[vR a1, vI f1, vI t2, vJ q3, .second, vI ((((f1 + (1 : Int32)) + (1 : Int32)) + (1 : Int32)) + (1 : Int32)), vI d4] [(.long (10 : Int64)), (.long q3)]))
                                refine Go.step (fun _ k => XS.lmul X_247.here hx rfl (hb hby d_prog_1_method_2_code_41) rfl k) ?_
                                show Go p e below _ (T_247.setTop (mkF m 42 #[vR a1, vI f1, vI t2, vJ q3, .second, vI ((((f1 + (1 : Int32)) + (1 : Int32)) + (1 : Int32)) + (1 : Int32)), vI d4] [(.long (q3 * (10 : Int64)))]))
                                refine Go.step (fun _ k => XS.iload X_247.here hx rfl (hb hby d_prog_1_method_2_code_42) rfl  k) ?_
                                refine Go.step (fun _ k => XS.bipush X_247.here hx rfl (hb hby d_prog_1_method_2_code_44) k) ?_
                                show Go p e below _ (T_247.setTop (mkF m 46 #[vR a1, vI f1, vI t2, vJ q3, .second, vI ((((f1 + (1 : Int32)) + (1 : Int32)) + (1 : Int32)) + (1 : Int32)), vI d4] [(.int (48 : Int32)), (.int d4), (.long (q3 * (10 : Int64)))]))
                                refine Go.step (fun _ k => XS.isub X_247.here hx rfl (hb hby d_prog_1_method_2_code_46) rfl k) ?_
                                show Go p e below _ (T_247.setTop (mkF m 47 #[vR a1, vI f1, vI t2, vJ q3, .second, vI ((((f1 + (1 : Int32)) + (1 : Int32)) + (1 : Int32)) + (1 : Int32)), vI d4] [(.int (d4 - (48 : Int32))), (.long (q3 * (10 : Int64)))]))
                                refine Go.step (fun _ k => XS.i2l X_247.here hx rfl (hb hby d_prog_1_method_2_code_47) rfl k) ?_
                                show Go p e below _ (T_247.setTop (mkF m 48 #[vR a1, vI f1, vI t2, vJ q3, .second, vI ((((f1 + (1 : Int32)) + (1 : Int32)) + (1 : Int32)) + (1 : Int32)), vI d4] [(.long (d4 - (48 : Int32)).toInt64), (.long (q3 * (10 : Int64)))]))
                                refine Go.step (fun _ k => XS.ladd X_247.here hx rfl (hb hby d_prog_1_method_2_code_48) rfl k) ?_
                                show Go p e below _ (T_247.setTop (mkF m 49 #[vR a1, vI f1, vI t2, vJ q3, .second, vI ((((f1 + (1 : Int32)) + (1 : Int32)) + (1 : Int32)) + (1 : Int32)), vI d4] [(.long ((q3 * (10 : Int64)) + (d4 - (48 : Int32)).toInt64))]))
                                refine Go.step (fun _ k => XS.lstoreN X_247.here hx rfl (hb hby d_prog_1_method_2_code_49) rfl (l' := #[vR a1, vI f1, vI t2, vJ ((q3 * (10 : Int64)) + (d4 - (48 : Int32)).toInt64), .second, vI ((((f1 + (1 : Int32)) + (1 : Int32)) + (1 : Int32)) + (1 : Int32)), vI d4]) rfl k) ?_
                                show Go p e below _ (T_247.setTop (mkF m 50 #[vR a1, vI f1, vI t2, vJ ((q3 * (10 : Int64)) + (d4 - (48 : Int32)).toInt64), .second, vI ((((f1 + (1 : Int32)) + (1 : Int32)) + (1 : Int32)) + (1 : Int32)), vI d4] []))
                                obtain ⟨q4, h_q4⟩ : ∃ z, z = ((q3 * (10 : Int64)) + (d4 - (48 : Int32)).toInt64) := ⟨_, rfl⟩
                                rw [← h_q4]
                                show Go p e below _ (T_247.setTop (mkF m 50 #[vR a1, vI f1, vI t2, vJ q4, .second, vI ((((f1 + (1 : Int32)) + (1 : Int32)) + (1 : Int32)) + (1 : Int32)), vI d4] []))
                                refine Go.step (fun _ k => XS.iinc X_247.here hx rfl (hb hby d_prog_1_method_2_code_50) rfl (l' := #[vR a1, vI f1, vI t2, vJ q4, .second, vI (((((f1 + (1 : Int32)) + (1 : Int32)) + (1 : Int32)) + (1 : Int32)) + (1 : Int32)), vI d4]) rfl k) ?_
                                show Go p e below _ (T_247.setTop (mkF m 53 #[vR a1, vI f1, vI t2, vJ q4, .second, vI (((((f1 + (1 : Int32)) + (1 : Int32)) + (1 : Int32)) + (1 : Int32)) + (1 : Int32)), vI d4] []))
                                refine Go.step (fun _ k => XS.goto X_247.here hx rfl (pc0 := 53) (pc' := 5) rfl (hb hby d_prog_1_method_2_code_53) (by decide) (by decide) k) ?_
                                show Go p e below _ (T_247.setTop (mkF m 5 #[vR a1, vI f1, vI t2, vJ q4, .second, vI (((((f1 + (1 : Int32)) + (1 : Int32)) + (1 : Int32)) + (1 : Int32)) + (1 : Int32)), vI d4] []))
                                refine Go.step (fun _ k => XS.iload X_247.here hx rfl (hb hby d_prog_1_method_2_code_5) rfl  k) ?_
                                refine Go.step (fun _ k => XS.iloadN X_247.here hx rfl (hb hby d_prog_1_method_2_code_7) rfl  k) ?_
                                show Go p e below _ (T_247.setTop (mkF m 8 #[vR a1, vI f1, vI t2, vJ q4, .second, vI (((((f1 + (1 : Int32)) + (1 : Int32)) + (1 : Int32)) + (1 : Int32)) + (1 : Int32)), vI d4] [(.int t2), (.int (((((f1 + (1 : Int32)) + (1 : Int32)) + (1 : Int32)) + (1 : Int32)) + (1 : Int32)))]))
                                by_cases x5 : (((((f1 + (1 : Int32)) + (1 : Int32)) + (1 : Int32)) + (1 : Int32)) + (1 : Int32)) < t2
                                · skip
                                  refine Go.step (fun _ k => XS.icmpNo X_247.here hx rfl (hb hby d_prog_1_method_2_code_8) rfl (tlt x5).2.1 k) ?_
                                  show Go p e below _ (T_247.setTop (mkF m 11 #[vR a1, vI f1, vI t2, vJ q4, .second, vI (((((f1 + (1 : Int32)) + (1 : Int32)) + (1 : Int32)) + (1 : Int32)) + (1 : Int32)), vI d4] []))
                                  refine Go.step (fun _ k => XS.aloadN X_247.here hx rfl (hb hby d_prog_1_method_2_code_11) rfl rfl k) ?_
                                  refine Go.step (fun _ k => XS.iload X_247.here hx rfl (hb hby d_prog_1_method_2_code_12) rfl  k) ?_
                                  show Go p e below _ (T_247.setTop (mkF m 14 #[vR a1, vI f1, vI t2, vJ q4, .second, vI (((((f1 + (1 : Int32)) + (1 : Int32)) + (1 : Int32)) + (1 : Int32)) + (1 : Int32)), vI d4] [(.int (((((f1 + (1 : Int32)) + (1 : Int32)) + (1 : Int32)) + (1 : Int32)) + (1 : Int32))), (.ref a1)]))
                                  have k5' : (((((f1 + (1 : Int32)) + (1 : Int32)) + (1 : Int32)) + (1 : Int32)) + (1 : Int32)).toInt = f1.toInt + 5 := k4
                                  have j5 : 0 ≤ (((((f1 + (1 : Int32)) + (1 : Int32)) + (1 : Int32)) + (1 : Int32)) + (1 : Int32)).toInt ∧ (((((f1 + (1 : Int32)) + (1 : Int32)) + (1 : Int32)) + (1 : Int32)) + (1 : Int32)).toInt < 6 := by have := hft; have q := x5; rw [Int32.lt_iff_toInt_lt] at q; omega
                                  have k5 : ((((((f1 + (1 : Int32)) + (1 : Int32)) + (1 : Int32)) + (1 : Int32)) + (1 : Int32)) + (1 : Int32)).toInt = f1.toInt + 6 := by have := plus1 k5' (by have := hft; omega); omega
                                  obtain ⟨v_248, T_248, L_248, X_248, hQ_248, st_248⟩ := goV X_247 hx hZ (y := Y_15) (z := Y_15) hown (wd_59 hw) (wd_60 hw) (notFace_of_selects (args := #[]) (mvT hZ (wd_62 hw))) (wd_62 hw) (wd_61 hw) (by decide) (backOf (W := 0) (rm_caL l Z a0 hw zc vfm (a1) (t1) (kt) c0 c1 c2 c3 c4 c5 ((((((f1 + (1 : Int32)) + (1 : Int32)) + (1 : Int32)) + (1 : Int32)) + (1 : Int32))) h0 n0 (Nat.le_trans Z0 KP0.1) E_a1 F_v F_c A_t h_c0 h_c1 h_c2 h_c3 h_c4 h_c5 l_c0 l_c1 l_c2 l_c3 l_c4 l_c5 j5 hSt hO) hZ (wd_63 hw) (wd_9 hw) (by decide) (by decide)) e_247 E_a1 (g := (mkF m 14 #[vR a1, vI f1, vI t2, vJ q4, .second, vI (((((f1 + (1 : Int32)) + (1 : Int32)) + (1 : Int32)) + (1 : Int32)) + (1 : Int32)), vI d4] [(.int (((((f1 + (1 : Int32)) + (1 : Int32)) + (1 : Int32)) + (1 : Int32)) + (1 : Int32))), (.ref a1)])) rfl (by rw [hml]; rfl) (argsL := [(.int (((((f1 + (1 : Int32)) + (1 : Int32)) + (1 : Int32)) + (1 : Int32)) + (1 : Int32)))]) (rest := []) rfl (lenOf pd_13 rfl) rfl (by show 2 * 0 + _ ≤ _; exact Nat.le_of_eq rfl) (hb hby d_prog_1_method_2_code_14) (by decide) (by decide)
                                  obtain ⟨rfl, Nq_248, e_248⟩ := hQ_248
                                  have N_248 := Fr.app N_247 Nq_248
                                  refine Go.step st_248 ?_
                                  show Go p e below _ (T_248.setTop (mkF m 17 #[vR a1, vI f1, vI t2, vJ q4, .second, vI (((((f1 + (1 : Int32)) + (1 : Int32)) + (1 : Int32)) + (1 : Int32)) + (1 : Int32)), vI d4] [(.int (sel c0 c1 c2 c3 c4 c5 (((((f1 + (1 : Int32)) + (1 : Int32)) + (1 : Int32)) + (1 : Int32)) + (1 : Int32))))]))
                                  refine Go.step (fun _ k => XS.istore X_248.here hx rfl (hb hby d_prog_1_method_2_code_17) rfl (l' := #[vR a1, vI f1, vI t2, vJ q4, .second, vI (((((f1 + (1 : Int32)) + (1 : Int32)) + (1 : Int32)) + (1 : Int32)) + (1 : Int32)), vI (sel c0 c1 c2 c3 c4 c5 (((((f1 + (1 : Int32)) + (1 : Int32)) + (1 : Int32)) + (1 : Int32)) + (1 : Int32)))]) rfl k) ?_
                                  show Go p e below _ (T_248.setTop (mkF m 19 #[vR a1, vI f1, vI t2, vJ q4, .second, vI (((((f1 + (1 : Int32)) + (1 : Int32)) + (1 : Int32)) + (1 : Int32)) + (1 : Int32)), vI (sel c0 c1 c2 c3 c4 c5 (((((f1 + (1 : Int32)) + (1 : Int32)) + (1 : Int32)) + (1 : Int32)) + (1 : Int32)))] []))
                                  obtain ⟨d5, h_d5⟩ : ∃ z, z = (sel c0 c1 c2 c3 c4 c5 (((((f1 + (1 : Int32)) + (1 : Int32)) + (1 : Int32)) + (1 : Int32)) + (1 : Int32))) := ⟨_, rfl⟩
                                  rw [← h_d5]
                                  show Go p e below _ (T_248.setTop (mkF m 19 #[vR a1, vI f1, vI t2, vJ q4, .second, vI (((((f1 + (1 : Int32)) + (1 : Int32)) + (1 : Int32)) + (1 : Int32)) + (1 : Int32)), vI d5] []))
                                  refine Go.step (fun _ k => XS.iload X_248.here hx rfl (hb hby d_prog_1_method_2_code_19) rfl  k) ?_
                                  refine Go.step (fun _ k => XS.bipush X_248.here hx rfl (hb hby d_prog_1_method_2_code_21) k) ?_
                                  show Go p e below _ (T_248.setTop (mkF m 23 #[vR a1, vI f1, vI t2, vJ q4, .second, vI (((((f1 + (1 : Int32)) + (1 : Int32)) + (1 : Int32)) + (1 : Int32)) + (1 : Int32)), vI d5] [(.int (48 : Int32)), (.int d5)]))
                                  by_cases y5 : d5 < (48 : Int32)
                                  · skip
                                    refine Go.step (fun _ k => XS.icmpYes X_248.here hx rfl (pc0 := 23) (pc' := 33) rfl (hb hby d_prog_1_method_2_code_23) rfl (tlt y5).1 (by decide) (by decide) k) ?_
                                    show Go p e below _ (T_248.setTop (mkF m 33 #[vR a1, vI f1, vI t2, vJ q4, .second, vI (((((f1 + (1 : Int32)) + (1 : Int32)) + (1 : Int32)) + (1 : Int32)) + (1 : Int32)), vI d5] []))
                                    refine Go.step (fun _ k => X_248.ldc2Long hx hown (mvT hZ (wd_86 hw)) (g := (mkF m 33 #[vR a1, vI f1, vI t2, vJ q4, .second, vI (((((f1 + (1 : Int32)) + (1 : Int32)) + (1 : Int32)) + (1 : Int32)) + (1 : Int32)), vI d5] [])) rfl (hb hby d_prog_1_method_2_code_33) _ k) ?_
                                    show Go p e below _ (T_248.setTop (mkF m 36 #[vR a1, vI f1, vI t2, vJ q4, .second, vI (((((f1 + (1 : Int32)) + (1 : Int32)) + (1 : Int32)) + (1 : Int32)) + (1 : Int32)), vI d5] [(.long (-1 : Int64))]))
                                    exact Go.retV X_248 hx hlk hret rfl (Or.inr (Or.inl ⟨rfl, rfl, _, rfl⟩)) (hb hby d_prog_1_method_2_code_36) (by decide) (by decide) (by rw [e_248]; exact ⟨(by subst h_q4; subst h_q3; subst h_q2; subst h_q1; subst h_q0; subst h_d5; subst h_d4; subst h_d3; subst h_d2; subst h_d1; subst h_d0; simp only [rdF, x0, y0, z0, x1, y1, z1, x2, y2, z2, x3, y3, z3, x4, y4, z4, x5, y5, if_true, if_false, Int64.zero_mul]), N_248, rfl⟩)
                                  · skip
                                    refine Go.step (fun _ k => XS.icmpNo X_248.here hx rfl (hb hby d_prog_1_method_2_code_23) rfl (flt y5).1 k) ?_
                                    show Go p e below _ (T_248.setTop (mkF m 26 #[vR a1, vI f1, vI t2, vJ q4, .second, vI (((((f1 + (1 : Int32)) + (1 : Int32)) + (1 : Int32)) + (1 : Int32)) + (1 : Int32)), vI d5] []))
                                    refine Go.step (fun _ k => XS.iload X_248.here hx rfl (hb hby d_prog_1_method_2_code_26) rfl  k) ?_
                                    refine Go.step (fun _ k => XS.bipush X_248.here hx rfl (hb hby d_prog_1_method_2_code_28) k) ?_
                                    show Go p e below _ (T_248.setTop (mkF m 30 #[vR a1, vI f1, vI t2, vJ q4, .second, vI (((((f1 + (1 : Int32)) + (1 : Int32)) + (1 : Int32)) + (1 : Int32)) + (1 : Int32)), vI d5] [(.int (57 : Int32)), (.int d5)]))
                                    by_cases z5 : (57 : Int32) < d5
                                    · skip
                                      refine Go.step (fun _ k => XS.icmpNo X_248.here hx rfl (hb hby d_prog_1_method_2_code_30) rfl (tlt z5).2.2.2 k) ?_
                                      show Go p e below _ (T_248.setTop (mkF m 33 #[vR a1, vI f1, vI t2, vJ q4, .second, vI (((((f1 + (1 : Int32)) + (1 : Int32)) + (1 : Int32)) + (1 : Int32)) + (1 : Int32)), vI d5] []))
                                      refine Go.step (fun _ k => X_248.ldc2Long hx hown (mvT hZ (wd_86 hw)) (g := (mkF m 33 #[vR a1, vI f1, vI t2, vJ q4, .second, vI (((((f1 + (1 : Int32)) + (1 : Int32)) + (1 : Int32)) + (1 : Int32)) + (1 : Int32)), vI d5] [])) rfl (hb hby d_prog_1_method_2_code_33) _ k) ?_
                                      show Go p e below _ (T_248.setTop (mkF m 36 #[vR a1, vI f1, vI t2, vJ q4, .second, vI (((((f1 + (1 : Int32)) + (1 : Int32)) + (1 : Int32)) + (1 : Int32)) + (1 : Int32)), vI d5] [(.long (-1 : Int64))]))
                                      exact Go.retV X_248 hx hlk hret rfl (Or.inr (Or.inl ⟨rfl, rfl, _, rfl⟩)) (hb hby d_prog_1_method_2_code_36) (by decide) (by decide) (by rw [e_248]; exact ⟨(by subst h_q4; subst h_q3; subst h_q2; subst h_q1; subst h_q0; subst h_d5; subst h_d4; subst h_d3; subst h_d2; subst h_d1; subst h_d0; simp only [rdF, x0, y0, z0, x1, y1, z1, x2, y2, z2, x3, y3, z3, x4, y4, z4, x5, y5, z5, if_true, if_false, Int64.zero_mul]), N_248, rfl⟩)
                                    · skip
                                      refine Go.step (fun _ k => XS.icmpYes X_248.here hx rfl (pc0 := 30) (pc' := 37) rfl (hb hby d_prog_1_method_2_code_30) rfl (flt z5).2.2.2 (by decide) (by decide) k) ?_
                                      show Go p e below _ (T_248.setTop (mkF m 37 #[vR a1, vI f1, vI t2, vJ q4, .second, vI (((((f1 + (1 : Int32)) + (1 : Int32)) + (1 : Int32)) + (1 : Int32)) + (1 : Int32)), vI d5] []))
                                      refine Go.step (fun _ k => XS.lloadN X_248.here hx rfl (hb hby d_prog_1_method_2_code_37) rfl  k) ?_
                                      show Go p e below _ (T_248.setTop (mkF m 38 #[vR a1, vI f1, vI t2, vJ q4, .second, vI (((((f1 + (1 : Int32)) + (1 : Int32)) + (1 : Int32)) + (1 : Int32)) + (1 : Int32)), vI d5] [(.long q4)]))
                                      refine Go.step (fun _ k => X_248.ldc2Long hx hown (mvT hZ (wd_98 hw)) (g := (mkF m 38 #[vR a1, vI f1, vI t2, vJ q4, .second, vI (((((f1 + (1 : Int32)) + (1 : Int32)) + (1 : Int32)) + (1 : Int32)) + (1 : Int32)), vI d5] [(.long q4)])) rfl (hb hby d_prog_1_method_2_code_38) _ k) ?_
                                      show Go p e below _ (T_248.setTop (mkF m 41 #[vR a1, vI f1, vI t2, vJ q4, .second, vI (((((f1 + (1 : Int32)) + (1 : Int32)) + (1 : Int32)) + (1 : Int32)) + (1 : Int32)), vI d5] [(.long (10 : Int64)), (.long q4)]))
                                      refine Go.step (fun _ k => XS.lmul X_248.here hx rfl (hb hby d_prog_1_method_2_code_41) rfl k) ?_
                                      show Go p e below _ (T_248.setTop (mkF m 42 #[vR a1, vI f1, vI t2, vJ q4, .second, vI (((((f1 + (1 : Int32)) + (1 : Int32)) + (1 : Int32)) + (1 : Int32)) + (1 : Int32)), vI d5] [(.long (q4 * (10 : Int64)))]))
                                      refine Go.step (fun _ k => XS.iload X_248.here hx rfl (hb hby d_prog_1_method_2_code_42) rfl  k) ?_
                                      refine Go.step (fun _ k => XS.bipush X_248.here hx rfl (hb hby d_prog_1_method_2_code_44) k) ?_
                                      show Go p e below _ (T_248.setTop (mkF m 46 #[vR a1, vI f1, vI t2, vJ q4, .second, vI (((((f1 + (1 : Int32)) + (1 : Int32)) + (1 : Int32)) + (1 : Int32)) + (1 : Int32)), vI d5] [(.int (48 : Int32)), (.int d5), (.long (q4 * (10 : Int64)))]))
                                      refine Go.step (fun _ k => XS.isub X_248.here hx rfl (hb hby d_prog_1_method_2_code_46) rfl k) ?_
                                      show Go p e below _ (T_248.setTop (mkF m 47 #[vR a1, vI f1, vI t2, vJ q4, .second, vI (((((f1 + (1 : Int32)) + (1 : Int32)) + (1 : Int32)) + (1 : Int32)) + (1 : Int32)), vI d5] [(.int (d5 - (48 : Int32))), (.long (q4 * (10 : Int64)))]))
                                      refine Go.step (fun _ k => XS.i2l X_248.here hx rfl (hb hby d_prog_1_method_2_code_47) rfl k) ?_
                                      show Go p e below _ (T_248.setTop (mkF m 48 #[vR a1, vI f1, vI t2, vJ q4, .second, vI (((((f1 + (1 : Int32)) + (1 : Int32)) + (1 : Int32)) + (1 : Int32)) + (1 : Int32)), vI d5] [(.long (d5 - (48 : Int32)).toInt64), (.long (q4 * (10 : Int64)))]))
                                      refine Go.step (fun _ k => XS.ladd X_248.here hx rfl (hb hby d_prog_1_method_2_code_48) rfl k) ?_
                                      show Go p e below _ (T_248.setTop (mkF m 49 #[vR a1, vI f1, vI t2, vJ q4, .second, vI (((((f1 + (1 : Int32)) + (1 : Int32)) + (1 : Int32)) + (1 : Int32)) + (1 : Int32)), vI d5] [(.long ((q4 * (10 : Int64)) + (d5 - (48 : Int32)).toInt64))]))
                                      refine Go.step (fun _ k => XS.lstoreN X_248.here hx rfl (hb hby d_prog_1_method_2_code_49) rfl (l' := #[vR a1, vI f1, vI t2, vJ ((q4 * (10 : Int64)) + (d5 - (48 : Int32)).toInt64), .second, vI (((((f1 + (1 : Int32)) + (1 : Int32)) + (1 : Int32)) + (1 : Int32)) + (1 : Int32)), vI d5]) rfl k) ?_
                                      show Go p e below _ (T_248.setTop (mkF m 50 #[vR a1, vI f1, vI t2, vJ ((q4 * (10 : Int64)) + (d5 - (48 : Int32)).toInt64), .second, vI (((((f1 + (1 : Int32)) + (1 : Int32)) + (1 : Int32)) + (1 : Int32)) + (1 : Int32)), vI d5] []))
                                      obtain ⟨q5, h_q5⟩ : ∃ z, z = ((q4 * (10 : Int64)) + (d5 - (48 : Int32)).toInt64) := ⟨_, rfl⟩
                                      rw [← h_q5]
                                      show Go p e below _ (T_248.setTop (mkF m 50 #[vR a1, vI f1, vI t2, vJ q5, .second, vI (((((f1 + (1 : Int32)) + (1 : Int32)) + (1 : Int32)) + (1 : Int32)) + (1 : Int32)), vI d5] []))
                                      refine Go.step (fun _ k => XS.iinc X_248.here hx rfl (hb hby d_prog_1_method_2_code_50) rfl (l' := #[vR a1, vI f1, vI t2, vJ q5, .second, vI ((((((f1 + (1 : Int32)) + (1 : Int32)) + (1 : Int32)) + (1 : Int32)) + (1 : Int32)) + (1 : Int32)), vI d5]) rfl k) ?_
                                      show Go p e below _ (T_248.setTop (mkF m 53 #[vR a1, vI f1, vI t2, vJ q5, .second, vI ((((((f1 + (1 : Int32)) + (1 : Int32)) + (1 : Int32)) + (1 : Int32)) + (1 : Int32)) + (1 : Int32)), vI d5] []))
                                      refine Go.step (fun _ k => XS.goto X_248.here hx rfl (pc0 := 53) (pc' := 5) rfl (hb hby d_prog_1_method_2_code_53) (by decide) (by decide) k) ?_
                                      show Go p e below _ (T_248.setTop (mkF m 5 #[vR a1, vI f1, vI t2, vJ q5, .second, vI ((((((f1 + (1 : Int32)) + (1 : Int32)) + (1 : Int32)) + (1 : Int32)) + (1 : Int32)) + (1 : Int32)), vI d5] []))
                                      refine Go.step (fun _ k => XS.iload X_248.here hx rfl (hb hby d_prog_1_method_2_code_5) rfl  k) ?_
                                      refine Go.step (fun _ k => XS.iloadN X_248.here hx rfl (hb hby d_prog_1_method_2_code_7) rfl  k) ?_
                                      show Go p e below _ (T_248.setTop (mkF m 8 #[vR a1, vI f1, vI t2, vJ q5, .second, vI ((((((f1 + (1 : Int32)) + (1 : Int32)) + (1 : Int32)) + (1 : Int32)) + (1 : Int32)) + (1 : Int32)), vI d5] [(.int t2), (.int ((((((f1 + (1 : Int32)) + (1 : Int32)) + (1 : Int32)) + (1 : Int32)) + (1 : Int32)) + (1 : Int32)))]))
                                      refine Go.step (fun _ k => XS.icmpYes X_248.here hx rfl (pc0 := 8) (pc' := 56) rfl (hb hby d_prog_1_method_2_code_8) rfl (flt ((fun q => by rw [Int32.lt_iff_toInt_lt] at q; have := k5; have := hft; omega) : ¬ (((((((f1 + (1 : Int32)) + (1 : Int32)) + (1 : Int32)) + (1 : Int32)) + (1 : Int32)) + (1 : Int32)) < t2))).2.1 (by decide) (by decide) k) ?_
                                      show Go p e below _ (T_248.setTop (mkF m 56 #[vR a1, vI f1, vI t2, vJ q5, .second, vI ((((((f1 + (1 : Int32)) + (1 : Int32)) + (1 : Int32)) + (1 : Int32)) + (1 : Int32)) + (1 : Int32)), vI d5] []))
                                      refine Go.step (fun _ k => XS.lloadN X_248.here hx rfl (hb hby d_prog_1_method_2_code_56) rfl  k) ?_
                                      show Go p e below _ (T_248.setTop (mkF m 57 #[vR a1, vI f1, vI t2, vJ q5, .second, vI ((((((f1 + (1 : Int32)) + (1 : Int32)) + (1 : Int32)) + (1 : Int32)) + (1 : Int32)) + (1 : Int32)), vI d5] [(.long q5)]))
                                      exact Go.retV X_248 hx hlk hret rfl (Or.inr (Or.inl ⟨rfl, rfl, _, rfl⟩)) (hb hby d_prog_1_method_2_code_57) (by decide) (by decide) (by rw [e_248]; exact ⟨(by subst h_q5; subst h_q4; subst h_q3; subst h_q2; subst h_q1; subst h_q0; subst h_d5; subst h_d4; subst h_d3; subst h_d2; subst h_d1; subst h_d0; simp only [rdF, x0, y0, z0, x1, y1, z1, x2, y2, z2, x3, y3, z3, x4, y4, z4, x5, y5, z5, if_true, if_false, Int64.zero_mul]), N_248, rfl⟩)
                                · skip
                                  refine Go.step (fun _ k => XS.icmpYes X_247.here hx rfl (pc0 := 8) (pc' := 56) rfl (hb hby d_prog_1_method_2_code_8) rfl (flt x5).2.1 (by decide) (by decide) k) ?_
                                  show Go p e below _ (T_247.setTop (mkF m 56 #[vR a1, vI f1, vI t2, vJ q4, .second, vI (((((f1 + (1 : Int32)) + (1 : Int32)) + (1 : Int32)) + (1 : Int32)) + (1 : Int32)), vI d4] []))
                                  refine Go.step (fun _ k => XS.lloadN X_247.here hx rfl (hb hby d_prog_1_method_2_code_56) rfl  k) ?_
                                  show Go p e below _ (T_247.setTop (mkF m 57 #[vR a1, vI f1, vI t2, vJ q4, .second, vI (((((f1 + (1 : Int32)) + (1 : Int32)) + (1 : Int32)) + (1 : Int32)) + (1 : Int32)), vI d4] [(.long q4)]))
                                  exact Go.retV X_247 hx hlk hret rfl (Or.inr (Or.inl ⟨rfl, rfl, _, rfl⟩)) (hb hby d_prog_1_method_2_code_57) (by decide) (by decide) (by rw [e_247]; exact ⟨(by subst h_q4; subst h_q3; subst h_q2; subst h_q1; subst h_q0; subst h_d4; subst h_d3; subst h_d2; subst h_d1; subst h_d0; simp only [rdF, x0, y0, z0, x1, y1, z1, x2, y2, z2, x3, y3, z3, x4, y4, z4, x5, if_true, if_false, Int64.zero_mul]), N_247, rfl⟩)
                          · skip
                            refine Go.step (fun _ k => XS.icmpYes X_246.here hx rfl (pc0 := 8) (pc' := 56) rfl (hb hby d_prog_1_method_2_code_8) rfl (flt x4).2.1 (by decide) (by decide) k) ?_
                            show Go p e below _ (T_246.setTop (mkF m 56 #[vR a1, vI f1, vI t2, vJ q3, .second, vI ((((f1 + (1 : Int32)) + (1 : Int32)) + (1 : Int32)) + (1 : Int32)), vI d3] []))
                            refine Go.step (fun _ k => XS.lloadN X_246.here hx rfl (hb hby d_prog_1_method_2_code_56) rfl  k) ?_
                            show Go p e below _ (T_246.setTop (mkF m 57 #[vR a1, vI f1, vI t2, vJ q3, .second, vI ((((f1 + (1 : Int32)) + (1 : Int32)) + (1 : Int32)) + (1 : Int32)), vI d3] [(.long q3)]))
                            exact Go.retV X_246 hx hlk hret rfl (Or.inr (Or.inl ⟨rfl, rfl, _, rfl⟩)) (hb hby d_prog_1_method_2_code_57) (by decide) (by decide) (by rw [e_246]; exact ⟨(by subst h_q3; subst h_q2; subst h_q1; subst h_q0; subst h_d3; subst h_d2; subst h_d1; subst h_d0; simp only [rdF, x0, y0, z0, x1, y1, z1, x2, y2, z2, x3, y3, z3, x4, if_true, if_false, Int64.zero_mul]), N_246, rfl⟩)
                    · skip
                      refine Go.step (fun _ k => XS.icmpYes X_245.here hx rfl (pc0 := 8) (pc' := 56) rfl (hb hby d_prog_1_method_2_code_8) rfl (flt x3).2.1 (by decide) (by decide) k) ?_
                      show Go p e below _ (T_245.setTop (mkF m 56 #[vR a1, vI f1, vI t2, vJ q2, .second, vI (((f1 + (1 : Int32)) + (1 : Int32)) + (1 : Int32)), vI d2] []))
                      refine Go.step (fun _ k => XS.lloadN X_245.here hx rfl (hb hby d_prog_1_method_2_code_56) rfl  k) ?_
                      show Go p e below _ (T_245.setTop (mkF m 57 #[vR a1, vI f1, vI t2, vJ q2, .second, vI (((f1 + (1 : Int32)) + (1 : Int32)) + (1 : Int32)), vI d2] [(.long q2)]))
                      exact Go.retV X_245 hx hlk hret rfl (Or.inr (Or.inl ⟨rfl, rfl, _, rfl⟩)) (hb hby d_prog_1_method_2_code_57) (by decide) (by decide) (by rw [e_245]; exact ⟨(by subst h_q2; subst h_q1; subst h_q0; subst h_d2; subst h_d1; subst h_d0; simp only [rdF, x0, y0, z0, x1, y1, z1, x2, y2, z2, x3, if_true, if_false, Int64.zero_mul]), N_245, rfl⟩)
              · skip
                refine Go.step (fun _ k => XS.icmpYes X_244.here hx rfl (pc0 := 8) (pc' := 56) rfl (hb hby d_prog_1_method_2_code_8) rfl (flt x2).2.1 (by decide) (by decide) k) ?_
                show Go p e below _ (T_244.setTop (mkF m 56 #[vR a1, vI f1, vI t2, vJ q1, .second, vI ((f1 + (1 : Int32)) + (1 : Int32)), vI d1] []))
                refine Go.step (fun _ k => XS.lloadN X_244.here hx rfl (hb hby d_prog_1_method_2_code_56) rfl  k) ?_
                show Go p e below _ (T_244.setTop (mkF m 57 #[vR a1, vI f1, vI t2, vJ q1, .second, vI ((f1 + (1 : Int32)) + (1 : Int32)), vI d1] [(.long q1)]))
                exact Go.retV X_244 hx hlk hret rfl (Or.inr (Or.inl ⟨rfl, rfl, _, rfl⟩)) (hb hby d_prog_1_method_2_code_57) (by decide) (by decide) (by rw [e_244]; exact ⟨(by subst h_q1; subst h_q0; subst h_d1; subst h_d0; simp only [rdF, x0, y0, z0, x1, y1, z1, x2, if_true, if_false, Int64.zero_mul]), N_244, rfl⟩)
        · skip
          refine Go.step (fun _ k => XS.icmpYes X_243.here hx rfl (pc0 := 8) (pc' := 56) rfl (hb hby d_prog_1_method_2_code_8) rfl (flt x1).2.1 (by decide) (by decide) k) ?_
          show Go p e below _ (T_243.setTop (mkF m 56 #[vR a1, vI f1, vI t2, vJ q0, .second, vI (f1 + (1 : Int32)), vI d0] []))
          refine Go.step (fun _ k => XS.lloadN X_243.here hx rfl (hb hby d_prog_1_method_2_code_56) rfl  k) ?_
          show Go p e below _ (T_243.setTop (mkF m 57 #[vR a1, vI f1, vI t2, vJ q0, .second, vI (f1 + (1 : Int32)), vI d0] [(.long q0)]))
          exact Go.retV X_243 hx hlk hret rfl (Or.inr (Or.inl ⟨rfl, rfl, _, rfl⟩)) (hb hby d_prog_1_method_2_code_57) (by decide) (by decide) (by rw [e_243]; exact ⟨(by subst h_q0; subst h_d0; simp only [rdF, x0, y0, z0, x1, if_true, if_false, Int64.zero_mul]), N_243, rfl⟩)
  · skip
    refine Go.step (fun _ k => XS.icmpYes X0.here hx rfl (pc0 := 8) (pc' := 56) rfl (hb hby d_prog_1_method_2_code_8) rfl (flt x0).2.1 (by decide) (by decide) k) ?_
    show Go p e below _ (s₁.setTop (mkF m 56 #[vR a1, vI f1, vI t2, vJ 0, .second, vI f1, vU] []))
    refine Go.step (fun _ k => XS.lloadN X0.here hx rfl (hb hby d_prog_1_method_2_code_56) rfl  k) ?_
    show Go p e below _ (s₁.setTop (mkF m 57 #[vR a1, vI f1, vI t2, vJ 0, .second, vI f1, vU] [(.long (0 : Int64))]))
    exact Go.retV X0 hx hlk hret rfl (Or.inr (Or.inl ⟨rfl, rfl, _, rfl⟩)) (hb hby d_prog_1_method_2_code_57) (by decide) (by decide) (by rw [e0]; exact ⟨(by simp only [rdF, x0, if_true, if_false, Int64.zero_mul]), N0, rfl⟩)
--@E
--@C islU
def Q_islU (Z : State) (zc : Int32) (vfm : Value) (a1 : Addr) (h0 : Heap) (n0 : Nat) (v : Option Value) (h : Heap) (L : List Loc) : Prop := v = some (.int (0 : Int32)) ∧ Fr n0 L ∧ h = h0
set_option maxRecDepth 65536 in
set_option maxHeartbeats 40000000 in
theorem rm_islU (l : Launch) (Z : State) (a0 : Array Value) (hw : ∀ d ∈ tables_1, d.before a0 Z = true) (zc : Int32) (vfm : Value) (a1 : Addr) (h0 : Heap) (n0 : Nat) (Z0 : n0 ≤ h0.size) (F_c : Fld Z h0 a1 "java/lang/String" "coder" "B" (.int (1 : Int32))) (hSt : St Z zc vfm) (hO : Old Z n0 h0) :
    CN l Z ({ cls := "java/lang/String", name := "isLatin1", desc := "()Z" } : Jvm.MethodName) [(Jvm.Cond.code ({ cls := "java/lang/String", name := "isLatin1", desc := "()Z" } : Jvm.MethodName) jdk_42_method_154_code (1 : Nat) (Option.some Jvm.ClassFile.FieldType.boolean))] ({ frames := 0, cells := 0, slots := 0, locals := 0 } : Room) #[(.ref a1)] h0 (Q_islU Z zc vfm a1 h0 n0) := by
  refine CN.of (L0 := #[vR a1]) (plainFor_of_name pn_2) (fun m => by first | (simp [entryFrame, mkF, argsToLocals, Value.category]; done) | rfl) ?_
  intro p e s m below meth c s₁ hx hby hml hret hlk hZ hown hnm X0 e0
  have N0 := Fr.nil n0
  have KP0 := Keep.refl h0 []
  have hSt_ := hSt
  obtain ⟨S_cs, n_cs, S_fm, r_fm, S_ad, S_hi, S_lo⟩ := hSt_
  show Go p e below _ (s₁.setTop (mkF m 0 #[vR a1] []))
  obtain ⟨T_249, X_249, e_249, st_249⟩ := getS2 X0 hx hZ hown (host := "") (Or.inl (wd_20 hw)) Via.refl e0 (S_cs.ext hO.2) (g := (mkF m 0 #[vR a1] [])) rfl (hb hby d_jdk_42_method_154_code_0)
  refine Go.step st_249 ?_
  show Go p e below _ (T_249.setTop (mkF m 3 #[vR a1] [(.int zc)]))
  refine Go.step (fun _ k => XS.ifNo X_249.here hx rfl (hb hby d_jdk_42_method_154_code_3) rfl ((if0 _ _).trans (feq (n_cs : ¬ (zc = (0 : Int32)))).1) k) ?_
  show Go p e below _ (T_249.setTop (mkF m 6 #[vR a1] []))
  refine Go.step (fun _ k => XS.aloadN X_249.here hx rfl (hb hby d_jdk_42_method_154_code_6) rfl rfl k) ?_
  show Go p e below _ (T_249.setTop (mkF m 7 #[vR a1] [(.ref a1)]))
  obtain ⟨T_250, X_250, e_250, st_250⟩ := getF X_249 hx hZ hown (host := "") (Or.inl (wd_51 hw)) Via.refl e_249 F_c (g := (mkF m 7 #[vR a1] [(.ref a1)])) rfl rfl (hb hby d_jdk_42_method_154_code_7)
  refine Go.step st_250 ?_
  show Go p e below _ (T_250.setTop (mkF m 10 #[vR a1] [(.int (1 : Int32))]))
  refine Go.step (fun _ k => XS.ifYes X_250.here hx rfl (pc0 := 10) (pc' := 17) rfl (hb hby d_jdk_42_method_154_code_10) rfl ((if0 _ _).trans (feq ((by decide) : ¬ ((1 : Int32) = (0 : Int32)))).2) (by decide) (by decide) k) ?_
  show Go p e below _ (T_250.setTop (mkF m 17 #[vR a1] []))
  refine Go.step (fun _ k => XS.iconst X_250.here hx rfl (hb hby d_jdk_42_method_154_code_17) k) ?_
  show Go p e below _ (T_250.setTop (mkF m 18 #[vR a1] [(.int (0 : Int32))]))
  exact Go.retV X_250 hx hlk hret rfl (Or.inl ⟨rfl, Or.inr (Or.inl rfl), _, rfl⟩) (hb hby d_jdk_42_method_154_code_18) (by decide) (by decide) (by rw [e_250]; exact ⟨rfl, N0, rfl⟩)
--@E
--@C caU
def Q_caU (Z : State) (zc : Int32) (vfm : Value) (a1 : Addr) (t1 : Addr) (kt : ClassId) (c0 : Int32) (c1 : Int32) (c2 : Int32) (c3 : Int32) (c4 : Int32) (c5 : Int32) (i1 : Int32) (h0 : Heap) (n0 : Nat) (v : Option Value) (h : Heap) (L : List Loc) : Prop := v = some (.int (sel c0 c1 c2 c3 c4 c5 i1)) ∧ Fr n0 L ∧ h = h0
set_option maxRecDepth 65536 in
set_option maxHeartbeats 40000000 in
theorem rm_caU (l : Launch) (Z : State) (a0 : Array Value) (hw : ∀ d ∈ tables_1, d.before a0 Z = true) (zc : Int32) (vfm : Value) (a1 : Addr) (t1 : Addr) (kt : ClassId) (c0 : Int32) (c1 : Int32) (c2 : Int32) (c3 : Int32) (c4 : Int32) (c5 : Int32) (i1 : Int32) (h0 : Heap) (n0 : Nat) (Z0 : n0 ≤ h0.size) (E_a1 : Exa Z h0 a1 "java/lang/String") (F_v : Fld Z h0 a1 "java/lang/String" "value" "[B" (.ref t1)) (F_c : Fld Z h0 a1 "java/lang/String" "coder" "B" (.int (1 : Int32))) (A_t : Arv Z h0 t1 kt .byte (12 : Int32) [(.int (lo8 c0)), (.int (hi8 c0)), (.int (lo8 c1)), (.int (hi8 c1)), (.int (lo8 c2)), (.int (hi8 c2)), (.int (lo8 c3)), (.int (hi8 c3)), (.int (lo8 c4)), (.int (hi8 c4)), (.int (lo8 c5)), (.int (hi8 c5))] (.int (0 : Int32))) (h_c0 : (0 ≤ c0.toInt ∧ c0.toInt ≤ 65535)) (h_c1 : (0 ≤ c1.toInt ∧ c1.toInt ≤ 65535)) (h_c2 : (0 ≤ c2.toInt ∧ c2.toInt ≤ 65535)) (h_c3 : (0 ≤ c3.toInt ∧ c3.toInt ≤ 65535)) (h_c4 : (0 ≤ c4.toInt ∧ c4.toInt ≤ 65535)) (h_c5 : (0 ≤ c5.toInt ∧ c5.toInt ≤ 65535)) (hi : (0 ≤ i1.toInt ∧ i1.toInt < 6)) (hSt : St Z zc vfm) (hO : Old Z n0 h0) :
    CN l Z ({ cls := "java/lang/String", name := "charAt", desc := "(I)C" } : Jvm.MethodName) [(Jvm.Cond.code ({ cls := "java/lang/String", name := "charAt", desc := "(I)C" } : Jvm.MethodName) jdk_42_method_56_code (2 : Nat) (Option.some Jvm.ClassFile.FieldType.char))] ({ frames := 4, cells := 0, slots := 0, locals := 53 } : Room) #[(.ref a1), (.int i1)] h0 (Q_caU Z zc vfm a1 t1 kt c0 c1 c2 c3 c4 c5 i1 h0 n0) := by
  refine CN.of (L0 := #[vR a1, vI i1]) (plainFor_of_name pn_2) (fun m => by first | (simp [entryFrame, mkF, argsToLocals, Value.category]; done) | rfl) ?_
  intro p e s m below meth c s₁ hx hby hml hret hlk hZ hown hnm X0 e0
  have N0 := Fr.nil n0
  have KP0 := Keep.refl h0 []
  have hSt_ := hSt
  obtain ⟨S_cs, n_cs, S_fm, r_fm, S_ad, S_hi, S_lo⟩ := hSt_
  show Go p e below _ (s₁.setTop (mkF m 0 #[vR a1, vI i1] []))
  refine Go.step (fun _ k => XS.aloadN X0.here hx rfl (hb hby d_jdk_42_method_56_code_0) rfl rfl k) ?_
  show Go p e below _ (s₁.setTop (mkF m 1 #[vR a1, vI i1] [(.ref a1)]))
  obtain ⟨v_251, T_251, L_251, X_251, hQ_251, st_251⟩ := goV X0 hx hZ (y := Y_13) (z := Y_13) hown (wd_64 hw) (wd_65 hw) (notFace_of_selects (args := #[]) (mvT hZ (wd_67 hw))) (wd_67 hw) (wd_66 hw) (by decide) (backOf (W := 0) (rm_islU l Z a0 hw zc vfm (a1) h0 n0 (Nat.le_trans Z0 KP0.1) F_c hSt hO) hZ (wd_68 hw) (wd_9 hw) (by decide) (by decide)) e0 E_a1 (g := (mkF m 1 #[vR a1, vI i1] [(.ref a1)])) rfl (by rw [hml]; rfl) (argsL := []) (rest := []) rfl (lenOf pd_12 rfl) rfl (by show 2 * 0 + _ ≤ _; exact Nat.le_of_eq rfl) (hb hby d_jdk_42_method_56_code_1) (by decide) (by decide)
  obtain ⟨rfl, Nq_251, e_251⟩ := hQ_251
  have N_251 := Fr.app N0 Nq_251
  refine Go.step st_251 ?_
  show Go p e below _ (T_251.setTop (mkF m 4 #[vR a1, vI i1] [(.int (0 : Int32))]))
  refine Go.step (fun _ k => XS.ifYes X_251.here hx rfl (pc0 := 4) (pc' := 16) rfl (hb hby d_jdk_42_method_56_code_4) rfl ((if0 _ _).trans (teq ((by decide) : (0 : Int32) = (0 : Int32))).1) (by decide) (by decide) k) ?_
  show Go p e below _ (T_251.setTop (mkF m 16 #[vR a1, vI i1] []))
  refine Go.step (fun _ k => XS.aloadN X_251.here hx rfl (hb hby d_jdk_42_method_56_code_16) rfl rfl k) ?_
  show Go p e below _ (T_251.setTop (mkF m 17 #[vR a1, vI i1] [(.ref a1)]))
  obtain ⟨T_252, X_252, e_252, st_252⟩ := getF X_251 hx hZ hown (host := "") (Or.inl (wd_53 hw)) Via.refl e_251 F_v (g := (mkF m 17 #[vR a1, vI i1] [(.ref a1)])) rfl rfl (hb hby d_jdk_42_method_56_code_17)
  refine Go.step st_252 ?_
  show Go p e below _ (T_252.setTop (mkF m 20 #[vR a1, vI i1] [(.ref t1)]))
  refine Go.step (fun _ k => XS.iloadN X_252.here hx rfl (hb hby d_jdk_42_method_56_code_20) rfl  k) ?_
  show Go p e below _ (T_252.setTop (mkF m 21 #[vR a1, vI i1] [(.int i1), (.ref t1)]))
  obtain ⟨v_253, T_253, L_253, X_253, hQ_253, st_253⟩ := goS X_252 hx hZ (y := Y_16) hown (wd_69 hw) (wd_70 hw) (wd_23 hw) (wd_71 hw) (by decide) (backOf (W := 0) (rm_uca l Z a0 hw zc vfm (t1) (kt) c0 c1 c2 c3 c4 c5 (i1) h0 n0 (Nat.le_trans Z0 KP0.1) A_t hi h_c0 h_c1 h_c2 h_c3 h_c4 h_c5 hSt hO) hZ (wd_71 hw) (wd_23 hw) (by decide) (by decide)) e_252 (g := (mkF m 21 #[vR a1, vI i1] [(.int i1), (.ref t1)])) rfl (by rw [hml]; rfl) (argsL := [(.ref t1), (.int i1)]) (rest := []) rfl (lenOf pd_5 rfl) rfl (by show 2 * 0 + _ ≤ _; exact Nat.le_of_eq rfl) (hb hby d_jdk_42_method_56_code_21) (by decide) (by decide)
  obtain ⟨rfl, Nq_253, e_253⟩ := hQ_253
  have N_253 := Fr.app N_251 Nq_253
  refine Go.step st_253 ?_
  show Go p e below _ (T_253.setTop (mkF m 24 #[vR a1, vI i1] [(.int (sel c0 c1 c2 c3 c4 c5 i1))]))
  exact Go.retV X_253 hx hlk hret (congrArg Value.int (nar_u (sel_rng h_c0 h_c1 h_c2 h_c3 h_c4 h_c5 i1))) (Or.inl ⟨rfl, Or.inr (Or.inr (Or.inr (Or.inl rfl))), _, rfl⟩) (hb hby d_jdk_42_method_56_code_24) (by decide) (by decide) (by rw [e_253]; exact ⟨rfl, N_253, rfl⟩)
--@E
--@C rdU
def Q_rdU (Z : State) (zc : Int32) (vfm : Value) (a1 : Addr) (t1 : Addr) (kt : ClassId) (c0 : Int32) (c1 : Int32) (c2 : Int32) (c3 : Int32) (c4 : Int32) (c5 : Int32) (f1 : Int32) (t2 : Int32) (h0 : Heap) (n0 : Nat) (v : Option Value) (h : Heap) (L : List Loc) : Prop := v = some (.long (rdF (sel c0 c1 c2 c3 c4 c5) t2 6 f1 (0 : Int64))) ∧ Fr n0 L ∧ h = h0
set_option maxRecDepth 65536 in
set_option maxHeartbeats 40000000 in
theorem rm_rdU (l : Launch) (Z : State) (a0 : Array Value) (hw : ∀ d ∈ tables_1, d.before a0 Z = true) (zc : Int32) (vfm : Value) (a1 : Addr) (t1 : Addr) (kt : ClassId) (c0 : Int32) (c1 : Int32) (c2 : Int32) (c3 : Int32) (c4 : Int32) (c5 : Int32) (f1 : Int32) (t2 : Int32) (h0 : Heap) (n0 : Nat) (Z0 : n0 ≤ h0.size) (E_a1 : Exa Z h0 a1 "java/lang/String") (F_v : Fld Z h0 a1 "java/lang/String" "value" "[B" (.ref t1)) (F_c : Fld Z h0 a1 "java/lang/String" "coder" "B" (.int (1 : Int32))) (A_t : Arv Z h0 t1 kt .byte (12 : Int32) [(.int (lo8 c0)), (.int (hi8 c0)), (.int (lo8 c1)), (.int (hi8 c1)), (.int (lo8 c2)), (.int (hi8 c2)), (.int (lo8 c3)), (.int (hi8 c3)), (.int (lo8 c4)), (.int (hi8 c4)), (.int (lo8 c5)), (.int (hi8 c5))] (.int (0 : Int32))) (h_c0 : (0 ≤ c0.toInt ∧ c0.toInt ≤ 65535)) (h_c1 : (0 ≤ c1.toInt ∧ c1.toInt ≤ 65535)) (h_c2 : (0 ≤ c2.toInt ∧ c2.toInt ≤ 65535)) (h_c3 : (0 ≤ c3.toInt ∧ c3.toInt ≤ 65535)) (h_c4 : (0 ≤ c4.toInt ∧ c4.toInt ≤ 65535)) (h_c5 : (0 ≤ c5.toInt ∧ c5.toInt ≤ 65535)) (hft : (0 ≤ f1.toInt ∧ f1.toInt ≤ t2.toInt ∧ t2.toInt ≤ 6)) (hSt : St Z zc vfm) (hO : Old Z n0 h0) :
    CN l Z ({ cls := "com/example/sigyn/sigyn/Digits", name := "read", desc := "(Ljava/lang/String;II)J" } : Jvm.MethodName) [(Jvm.Cond.code ({ cls := "com/example/sigyn/sigyn/Digits", name := "read", desc := "(Ljava/lang/String;II)J" } : Jvm.MethodName) prog_1_method_2_code (7 : Nat) (Option.some Jvm.ClassFile.FieldType.long))] ({ frames := 5, cells := 0, slots := 0, locals := 66 } : Room) #[(.ref a1), (.int f1), (.int t2)] h0 (Q_rdU Z zc vfm a1 t1 kt c0 c1 c2 c3 c4 c5 f1 t2 h0 n0) := by
  refine CN.of (L0 := #[vR a1, vI f1, vI t2, vU, vU, vU, vU]) (plainFor_of_name pn_5) (fun m => by first | (simp [entryFrame, mkF, argsToLocals, Value.category]; done) | rfl) ?_
  intro p e s m below meth c s₁ hx hby hml hret hlk hZ hown hnm X0 e0
  have N0 := Fr.nil n0
  have KP0 := Keep.refl h0 []
  have hSt_ := hSt
  obtain ⟨S_cs, n_cs, S_fm, r_fm, S_ad, S_hi, S_lo⟩ := hSt_
  show Go p e below _ (s₁.setTop (mkF m 0 #[vR a1, vI f1, vI t2, vU, vU, vU, vU] []))
  refine Go.step (fun _ k => XS.lconst X0.here hx rfl (hb hby d_prog_1_method_2_code_0) k) ?_
  show Go p e below _ (s₁.setTop (mkF m 1 #[vR a1, vI f1, vI t2, vU, vU, vU, vU] [(.long (0 : Int64))]))
  refine Go.step (fun _ k => XS.lstoreN X0.here hx rfl (hb hby d_prog_1_method_2_code_1) rfl (l' := #[vR a1, vI f1, vI t2, vJ 0, .second, vU, vU]) rfl k) ?_
  show Go p e below _ (s₁.setTop (mkF m 2 #[vR a1, vI f1, vI t2, vJ 0, .second, vU, vU] []))
  refine Go.step (fun _ k => XS.iloadN X0.here hx rfl (hb hby d_prog_1_method_2_code_2) rfl  k) ?_
  show Go p e below _ (s₁.setTop (mkF m 3 #[vR a1, vI f1, vI t2, vJ 0, .second, vU, vU] [(.int f1)]))
  refine Go.step (fun _ k => XS.istore X0.here hx rfl (hb hby d_prog_1_method_2_code_3) rfl (l' := #[vR a1, vI f1, vI t2, vJ 0, .second, vI f1, vU]) rfl k) ?_
  show Go p e below _ (s₁.setTop (mkF m 5 #[vR a1, vI f1, vI t2, vJ 0, .second, vI f1, vU] []))
  refine Go.step (fun _ k => XS.iload X0.here hx rfl (hb hby d_prog_1_method_2_code_5) rfl  k) ?_
  refine Go.step (fun _ k => XS.iloadN X0.here hx rfl (hb hby d_prog_1_method_2_code_7) rfl  k) ?_
  show Go p e below _ (s₁.setTop (mkF m 8 #[vR a1, vI f1, vI t2, vJ 0, .second, vI f1, vU] [(.int t2), (.int f1)]))
  by_cases x0 : f1 < t2
  · skip
    refine Go.step (fun _ k => XS.icmpNo X0.here hx rfl (hb hby d_prog_1_method_2_code_8) rfl (tlt x0).2.1 k) ?_
    show Go p e below _ (s₁.setTop (mkF m 11 #[vR a1, vI f1, vI t2, vJ 0, .second, vI f1, vU] []))
    refine Go.step (fun _ k => XS.aloadN X0.here hx rfl (hb hby d_prog_1_method_2_code_11) rfl rfl k) ?_
    refine Go.step (fun _ k => XS.iload X0.here hx rfl (hb hby d_prog_1_method_2_code_12) rfl  k) ?_
    show Go p e below _ (s₁.setTop (mkF m 14 #[vR a1, vI f1, vI t2, vJ 0, .second, vI f1, vU] [(.int f1), (.ref a1)]))
    have k0' : f1.toInt = f1.toInt + 0 := by omega
    have j0 : 0 ≤ f1.toInt ∧ f1.toInt < 6 := by have := hft; have q := x0; rw [Int32.lt_iff_toInt_lt] at q; omega
    have k0 : (f1 + (1 : Int32)).toInt = f1.toInt + 1 := by have := plus1 k0' (by have := hft; omega); omega
    obtain ⟨v_254, T_254, L_254, X_254, hQ_254, st_254⟩ := goV X0 hx hZ (y := Y_15) (z := Y_15) hown (wd_59 hw) (wd_60 hw) (notFace_of_selects (args := #[]) (mvT hZ (wd_62 hw))) (wd_62 hw) (wd_61 hw) (by decide) (backOf (W := 0) (rm_caU l Z a0 hw zc vfm (a1) (t1) (kt) c0 c1 c2 c3 c4 c5 (f1) h0 n0 (Nat.le_trans Z0 KP0.1) E_a1 F_v F_c A_t h_c0 h_c1 h_c2 h_c3 h_c4 h_c5 j0 hSt hO) hZ (wd_63 hw) (wd_9 hw) (by decide) (by decide)) e0 E_a1 (g := (mkF m 14 #[vR a1, vI f1, vI t2, vJ 0, .second, vI f1, vU] [(.int f1), (.ref a1)])) rfl (by rw [hml]; rfl) (argsL := [(.int f1)]) (rest := []) rfl (lenOf pd_13 rfl) rfl (by show 2 * 0 + _ ≤ _; exact Nat.le_of_eq rfl) (hb hby d_prog_1_method_2_code_14) (by decide) (by decide)
    obtain ⟨rfl, Nq_254, e_254⟩ := hQ_254
    have N_254 := Fr.app N0 Nq_254
    refine Go.step st_254 ?_
    show Go p e below _ (T_254.setTop (mkF m 17 #[vR a1, vI f1, vI t2, vJ 0, .second, vI f1, vU] [(.int (sel c0 c1 c2 c3 c4 c5 f1))]))
    refine Go.step (fun _ k => XS.istore X_254.here hx rfl (hb hby d_prog_1_method_2_code_17) rfl (l' := #[vR a1, vI f1, vI t2, vJ 0, .second, vI f1, vI (sel c0 c1 c2 c3 c4 c5 f1)]) rfl k) ?_
    show Go p e below _ (T_254.setTop (mkF m 19 #[vR a1, vI f1, vI t2, vJ 0, .second, vI f1, vI (sel c0 c1 c2 c3 c4 c5 f1)] []))
    obtain ⟨d0, h_d0⟩ : ∃ z, z = (sel c0 c1 c2 c3 c4 c5 f1) := ⟨_, rfl⟩
    rw [← h_d0]
    show Go p e below _ (T_254.setTop (mkF m 19 #[vR a1, vI f1, vI t2, vJ 0, .second, vI f1, vI d0] []))
    refine Go.step (fun _ k => XS.iload X_254.here hx rfl (hb hby d_prog_1_method_2_code_19) rfl  k) ?_
    refine Go.step (fun _ k => XS.bipush X_254.here hx rfl (hb hby d_prog_1_method_2_code_21) k) ?_
    show Go p e below _ (T_254.setTop (mkF m 23 #[vR a1, vI f1, vI t2, vJ 0, .second, vI f1, vI d0] [(.int (48 : Int32)), (.int d0)]))
    by_cases y0 : d0 < (48 : Int32)
    · skip
      refine Go.step (fun _ k => XS.icmpYes X_254.here hx rfl (pc0 := 23) (pc' := 33) rfl (hb hby d_prog_1_method_2_code_23) rfl (tlt y0).1 (by decide) (by decide) k) ?_
      show Go p e below _ (T_254.setTop (mkF m 33 #[vR a1, vI f1, vI t2, vJ 0, .second, vI f1, vI d0] []))
      refine Go.step (fun _ k => X_254.ldc2Long hx hown (mvT hZ (wd_86 hw)) (g := (mkF m 33 #[vR a1, vI f1, vI t2, vJ 0, .second, vI f1, vI d0] [])) rfl (hb hby d_prog_1_method_2_code_33) _ k) ?_
      show Go p e below _ (T_254.setTop (mkF m 36 #[vR a1, vI f1, vI t2, vJ 0, .second, vI f1, vI d0] [(.long (-1 : Int64))]))
      exact Go.retV X_254 hx hlk hret rfl (Or.inr (Or.inl ⟨rfl, rfl, _, rfl⟩)) (hb hby d_prog_1_method_2_code_36) (by decide) (by decide) (by rw [e_254]; exact ⟨(by subst h_d0; simp only [rdF, x0, y0, if_true, if_false, Int64.zero_mul]), N_254, rfl⟩)
    · skip
      refine Go.step (fun _ k => XS.icmpNo X_254.here hx rfl (hb hby d_prog_1_method_2_code_23) rfl (flt y0).1 k) ?_
      show Go p e below _ (T_254.setTop (mkF m 26 #[vR a1, vI f1, vI t2, vJ 0, .second, vI f1, vI d0] []))
      refine Go.step (fun _ k => XS.iload X_254.here hx rfl (hb hby d_prog_1_method_2_code_26) rfl  k) ?_
      refine Go.step (fun _ k => XS.bipush X_254.here hx rfl (hb hby d_prog_1_method_2_code_28) k) ?_
      show Go p e below _ (T_254.setTop (mkF m 30 #[vR a1, vI f1, vI t2, vJ 0, .second, vI f1, vI d0] [(.int (57 : Int32)), (.int d0)]))
      by_cases z0 : (57 : Int32) < d0
      · skip
        refine Go.step (fun _ k => XS.icmpNo X_254.here hx rfl (hb hby d_prog_1_method_2_code_30) rfl (tlt z0).2.2.2 k) ?_
        show Go p e below _ (T_254.setTop (mkF m 33 #[vR a1, vI f1, vI t2, vJ 0, .second, vI f1, vI d0] []))
        refine Go.step (fun _ k => X_254.ldc2Long hx hown (mvT hZ (wd_86 hw)) (g := (mkF m 33 #[vR a1, vI f1, vI t2, vJ 0, .second, vI f1, vI d0] [])) rfl (hb hby d_prog_1_method_2_code_33) _ k) ?_
        show Go p e below _ (T_254.setTop (mkF m 36 #[vR a1, vI f1, vI t2, vJ 0, .second, vI f1, vI d0] [(.long (-1 : Int64))]))
        exact Go.retV X_254 hx hlk hret rfl (Or.inr (Or.inl ⟨rfl, rfl, _, rfl⟩)) (hb hby d_prog_1_method_2_code_36) (by decide) (by decide) (by rw [e_254]; exact ⟨(by subst h_d0; simp only [rdF, x0, y0, z0, if_true, if_false, Int64.zero_mul]), N_254, rfl⟩)
      · skip
        refine Go.step (fun _ k => XS.icmpYes X_254.here hx rfl (pc0 := 30) (pc' := 37) rfl (hb hby d_prog_1_method_2_code_30) rfl (flt z0).2.2.2 (by decide) (by decide) k) ?_
        show Go p e below _ (T_254.setTop (mkF m 37 #[vR a1, vI f1, vI t2, vJ 0, .second, vI f1, vI d0] []))
        refine Go.step (fun _ k => XS.lloadN X_254.here hx rfl (hb hby d_prog_1_method_2_code_37) rfl  k) ?_
        show Go p e below _ (T_254.setTop (mkF m 38 #[vR a1, vI f1, vI t2, vJ 0, .second, vI f1, vI d0] [(.long (0 : Int64))]))
        refine Go.step (fun _ k => X_254.ldc2Long hx hown (mvT hZ (wd_98 hw)) (g := (mkF m 38 #[vR a1, vI f1, vI t2, vJ 0, .second, vI f1, vI d0] [(.long (0 : Int64))])) rfl (hb hby d_prog_1_method_2_code_38) _ k) ?_
        show Go p e below _ (T_254.setTop (mkF m 41 #[vR a1, vI f1, vI t2, vJ 0, .second, vI f1, vI d0] [(.long (10 : Int64)), (.long (0 : Int64))]))
        refine Go.step (fun _ k => XS.lmul X_254.here hx rfl (hb hby d_prog_1_method_2_code_41) rfl k) ?_
        show Go p e below _ (T_254.setTop (mkF m 42 #[vR a1, vI f1, vI t2, vJ 0, .second, vI f1, vI d0] [(.long ((0 : Int64) * (10 : Int64)))]))
        refine own_top (congrArg Value.long (show ((0 : Int64) * (10 : Int64)) = (0 : Int64) from by decide)) ?_
        show Go p e below _ (T_254.setTop (mkF m 42 #[vR a1, vI f1, vI t2, vJ 0, .second, vI f1, vI d0] [(.long (0 : Int64))]))
        refine Go.step (fun _ k => XS.iload X_254.here hx rfl (hb hby d_prog_1_method_2_code_42) rfl  k) ?_
        refine Go.step (fun _ k => XS.bipush X_254.here hx rfl (hb hby d_prog_1_method_2_code_44) k) ?_
        show Go p e below _ (T_254.setTop (mkF m 46 #[vR a1, vI f1, vI t2, vJ 0, .second, vI f1, vI d0] [(.int (48 : Int32)), (.int d0), (.long (0 : Int64))]))
        refine Go.step (fun _ k => XS.isub X_254.here hx rfl (hb hby d_prog_1_method_2_code_46) rfl k) ?_
        show Go p e below _ (T_254.setTop (mkF m 47 #[vR a1, vI f1, vI t2, vJ 0, .second, vI f1, vI d0] [(.int (d0 - (48 : Int32))), (.long (0 : Int64))]))
        refine Go.step (fun _ k => XS.i2l X_254.here hx rfl (hb hby d_prog_1_method_2_code_47) rfl k) ?_
        show Go p e below _ (T_254.setTop (mkF m 48 #[vR a1, vI f1, vI t2, vJ 0, .second, vI f1, vI d0] [(.long (d0 - (48 : Int32)).toInt64), (.long (0 : Int64))]))
        refine Go.step (fun _ k => XS.ladd X_254.here hx rfl (hb hby d_prog_1_method_2_code_48) rfl k) ?_
        show Go p e below _ (T_254.setTop (mkF m 49 #[vR a1, vI f1, vI t2, vJ 0, .second, vI f1, vI d0] [(.long ((0 : Int64) + (d0 - (48 : Int32)).toInt64))]))
        refine Go.step (fun _ k => XS.lstoreN X_254.here hx rfl (hb hby d_prog_1_method_2_code_49) rfl (l' := #[vR a1, vI f1, vI t2, vJ ((0 : Int64) + (d0 - (48 : Int32)).toInt64), .second, vI f1, vI d0]) rfl k) ?_
        show Go p e below _ (T_254.setTop (mkF m 50 #[vR a1, vI f1, vI t2, vJ ((0 : Int64) + (d0 - (48 : Int32)).toInt64), .second, vI f1, vI d0] []))
        obtain ⟨q0, h_q0⟩ : ∃ z, z = ((0 : Int64) + (d0 - (48 : Int32)).toInt64) := ⟨_, rfl⟩
        rw [← h_q0]
        show Go p e below _ (T_254.setTop (mkF m 50 #[vR a1, vI f1, vI t2, vJ q0, .second, vI f1, vI d0] []))
        refine Go.step (fun _ k => XS.iinc X_254.here hx rfl (hb hby d_prog_1_method_2_code_50) rfl (l' := #[vR a1, vI f1, vI t2, vJ q0, .second, vI (f1 + (1 : Int32)), vI d0]) rfl k) ?_
        show Go p e below _ (T_254.setTop (mkF m 53 #[vR a1, vI f1, vI t2, vJ q0, .second, vI (f1 + (1 : Int32)), vI d0] []))
        refine Go.step (fun _ k => XS.goto X_254.here hx rfl (pc0 := 53) (pc' := 5) rfl (hb hby d_prog_1_method_2_code_53) (by decide) (by decide) k) ?_
        show Go p e below _ (T_254.setTop (mkF m 5 #[vR a1, vI f1, vI t2, vJ q0, .second, vI (f1 + (1 : Int32)), vI d0] []))
        refine Go.step (fun _ k => XS.iload X_254.here hx rfl (hb hby d_prog_1_method_2_code_5) rfl  k) ?_
        refine Go.step (fun _ k => XS.iloadN X_254.here hx rfl (hb hby d_prog_1_method_2_code_7) rfl  k) ?_
        show Go p e below _ (T_254.setTop (mkF m 8 #[vR a1, vI f1, vI t2, vJ q0, .second, vI (f1 + (1 : Int32)), vI d0] [(.int t2), (.int (f1 + (1 : Int32)))]))
        by_cases x1 : (f1 + (1 : Int32)) < t2
        · skip
          refine Go.step (fun _ k => XS.icmpNo X_254.here hx rfl (hb hby d_prog_1_method_2_code_8) rfl (tlt x1).2.1 k) ?_
          show Go p e below _ (T_254.setTop (mkF m 11 #[vR a1, vI f1, vI t2, vJ q0, .second, vI (f1 + (1 : Int32)), vI d0] []))
          refine Go.step (fun _ k => XS.aloadN X_254.here hx rfl (hb hby d_prog_1_method_2_code_11) rfl rfl k) ?_
          refine Go.step (fun _ k => XS.iload X_254.here hx rfl (hb hby d_prog_1_method_2_code_12) rfl  k) ?_
          show Go p e below _ (T_254.setTop (mkF m 14 #[vR a1, vI f1, vI t2, vJ q0, .second, vI (f1 + (1 : Int32)), vI d0] [(.int (f1 + (1 : Int32))), (.ref a1)]))
          have k1' : (f1 + (1 : Int32)).toInt = f1.toInt + 1 := k0
          have j1 : 0 ≤ (f1 + (1 : Int32)).toInt ∧ (f1 + (1 : Int32)).toInt < 6 := by have := hft; have q := x1; rw [Int32.lt_iff_toInt_lt] at q; omega
          have k1 : ((f1 + (1 : Int32)) + (1 : Int32)).toInt = f1.toInt + 2 := by have := plus1 k1' (by have := hft; omega); omega
          obtain ⟨v_255, T_255, L_255, X_255, hQ_255, st_255⟩ := goV X_254 hx hZ (y := Y_15) (z := Y_15) hown (wd_59 hw) (wd_60 hw) (notFace_of_selects (args := #[]) (mvT hZ (wd_62 hw))) (wd_62 hw) (wd_61 hw) (by decide) (backOf (W := 0) (rm_caU l Z a0 hw zc vfm (a1) (t1) (kt) c0 c1 c2 c3 c4 c5 ((f1 + (1 : Int32))) h0 n0 (Nat.le_trans Z0 KP0.1) E_a1 F_v F_c A_t h_c0 h_c1 h_c2 h_c3 h_c4 h_c5 j1 hSt hO) hZ (wd_63 hw) (wd_9 hw) (by decide) (by decide)) e_254 E_a1 (g := (mkF m 14 #[vR a1, vI f1, vI t2, vJ q0, .second, vI (f1 + (1 : Int32)), vI d0] [(.int (f1 + (1 : Int32))), (.ref a1)])) rfl (by rw [hml]; rfl) (argsL := [(.int (f1 + (1 : Int32)))]) (rest := []) rfl (lenOf pd_13 rfl) rfl (by show 2 * 0 + _ ≤ _; exact Nat.le_of_eq rfl) (hb hby d_prog_1_method_2_code_14) (by decide) (by decide)
          obtain ⟨rfl, Nq_255, e_255⟩ := hQ_255
          have N_255 := Fr.app N_254 Nq_255
          refine Go.step st_255 ?_
          show Go p e below _ (T_255.setTop (mkF m 17 #[vR a1, vI f1, vI t2, vJ q0, .second, vI (f1 + (1 : Int32)), vI d0] [(.int (sel c0 c1 c2 c3 c4 c5 (f1 + (1 : Int32))))]))
          refine Go.step (fun _ k => XS.istore X_255.here hx rfl (hb hby d_prog_1_method_2_code_17) rfl (l' := #[vR a1, vI f1, vI t2, vJ q0, .second, vI (f1 + (1 : Int32)), vI (sel c0 c1 c2 c3 c4 c5 (f1 + (1 : Int32)))]) rfl k) ?_
          show Go p e below _ (T_255.setTop (mkF m 19 #[vR a1, vI f1, vI t2, vJ q0, .second, vI (f1 + (1 : Int32)), vI (sel c0 c1 c2 c3 c4 c5 (f1 + (1 : Int32)))] []))
          obtain ⟨d1, h_d1⟩ : ∃ z, z = (sel c0 c1 c2 c3 c4 c5 (f1 + (1 : Int32))) := ⟨_, rfl⟩
          rw [← h_d1]
          show Go p e below _ (T_255.setTop (mkF m 19 #[vR a1, vI f1, vI t2, vJ q0, .second, vI (f1 + (1 : Int32)), vI d1] []))
          refine Go.step (fun _ k => XS.iload X_255.here hx rfl (hb hby d_prog_1_method_2_code_19) rfl  k) ?_
          refine Go.step (fun _ k => XS.bipush X_255.here hx rfl (hb hby d_prog_1_method_2_code_21) k) ?_
          show Go p e below _ (T_255.setTop (mkF m 23 #[vR a1, vI f1, vI t2, vJ q0, .second, vI (f1 + (1 : Int32)), vI d1] [(.int (48 : Int32)), (.int d1)]))
          by_cases y1 : d1 < (48 : Int32)
          · skip
            refine Go.step (fun _ k => XS.icmpYes X_255.here hx rfl (pc0 := 23) (pc' := 33) rfl (hb hby d_prog_1_method_2_code_23) rfl (tlt y1).1 (by decide) (by decide) k) ?_
            show Go p e below _ (T_255.setTop (mkF m 33 #[vR a1, vI f1, vI t2, vJ q0, .second, vI (f1 + (1 : Int32)), vI d1] []))
            refine Go.step (fun _ k => X_255.ldc2Long hx hown (mvT hZ (wd_86 hw)) (g := (mkF m 33 #[vR a1, vI f1, vI t2, vJ q0, .second, vI (f1 + (1 : Int32)), vI d1] [])) rfl (hb hby d_prog_1_method_2_code_33) _ k) ?_
            show Go p e below _ (T_255.setTop (mkF m 36 #[vR a1, vI f1, vI t2, vJ q0, .second, vI (f1 + (1 : Int32)), vI d1] [(.long (-1 : Int64))]))
            exact Go.retV X_255 hx hlk hret rfl (Or.inr (Or.inl ⟨rfl, rfl, _, rfl⟩)) (hb hby d_prog_1_method_2_code_36) (by decide) (by decide) (by rw [e_255]; exact ⟨(by subst h_q0; subst h_d1; subst h_d0; simp only [rdF, x0, y0, z0, x1, y1, if_true, if_false, Int64.zero_mul]), N_255, rfl⟩)
          · skip
            refine Go.step (fun _ k => XS.icmpNo X_255.here hx rfl (hb hby d_prog_1_method_2_code_23) rfl (flt y1).1 k) ?_
            show Go p e below _ (T_255.setTop (mkF m 26 #[vR a1, vI f1, vI t2, vJ q0, .second, vI (f1 + (1 : Int32)), vI d1] []))
            refine Go.step (fun _ k => XS.iload X_255.here hx rfl (hb hby d_prog_1_method_2_code_26) rfl  k) ?_
            refine Go.step (fun _ k => XS.bipush X_255.here hx rfl (hb hby d_prog_1_method_2_code_28) k) ?_
            show Go p e below _ (T_255.setTop (mkF m 30 #[vR a1, vI f1, vI t2, vJ q0, .second, vI (f1 + (1 : Int32)), vI d1] [(.int (57 : Int32)), (.int d1)]))
            by_cases z1 : (57 : Int32) < d1
            · skip
              refine Go.step (fun _ k => XS.icmpNo X_255.here hx rfl (hb hby d_prog_1_method_2_code_30) rfl (tlt z1).2.2.2 k) ?_
              show Go p e below _ (T_255.setTop (mkF m 33 #[vR a1, vI f1, vI t2, vJ q0, .second, vI (f1 + (1 : Int32)), vI d1] []))
              refine Go.step (fun _ k => X_255.ldc2Long hx hown (mvT hZ (wd_86 hw)) (g := (mkF m 33 #[vR a1, vI f1, vI t2, vJ q0, .second, vI (f1 + (1 : Int32)), vI d1] [])) rfl (hb hby d_prog_1_method_2_code_33) _ k) ?_
              show Go p e below _ (T_255.setTop (mkF m 36 #[vR a1, vI f1, vI t2, vJ q0, .second, vI (f1 + (1 : Int32)), vI d1] [(.long (-1 : Int64))]))
              exact Go.retV X_255 hx hlk hret rfl (Or.inr (Or.inl ⟨rfl, rfl, _, rfl⟩)) (hb hby d_prog_1_method_2_code_36) (by decide) (by decide) (by rw [e_255]; exact ⟨(by subst h_q0; subst h_d1; subst h_d0; simp only [rdF, x0, y0, z0, x1, y1, z1, if_true, if_false, Int64.zero_mul]), N_255, rfl⟩)
            · skip
              refine Go.step (fun _ k => XS.icmpYes X_255.here hx rfl (pc0 := 30) (pc' := 37) rfl (hb hby d_prog_1_method_2_code_30) rfl (flt z1).2.2.2 (by decide) (by decide) k) ?_
              show Go p e below _ (T_255.setTop (mkF m 37 #[vR a1, vI f1, vI t2, vJ q0, .second, vI (f1 + (1 : Int32)), vI d1] []))
              refine Go.step (fun _ k => XS.lloadN X_255.here hx rfl (hb hby d_prog_1_method_2_code_37) rfl  k) ?_
              show Go p e below _ (T_255.setTop (mkF m 38 #[vR a1, vI f1, vI t2, vJ q0, .second, vI (f1 + (1 : Int32)), vI d1] [(.long q0)]))
              refine Go.step (fun _ k => X_255.ldc2Long hx hown (mvT hZ (wd_98 hw)) (g := (mkF m 38 #[vR a1, vI f1, vI t2, vJ q0, .second, vI (f1 + (1 : Int32)), vI d1] [(.long q0)])) rfl (hb hby d_prog_1_method_2_code_38) _ k) ?_
              show Go p e below _ (T_255.setTop (mkF m 41 #[vR a1, vI f1, vI t2, vJ q0, .second, vI (f1 + (1 : Int32)), vI d1] [(.long (10 : Int64)), (.long q0)]))
              refine Go.step (fun _ k => XS.lmul X_255.here hx rfl (hb hby d_prog_1_method_2_code_41) rfl k) ?_
              show Go p e below _ (T_255.setTop (mkF m 42 #[vR a1, vI f1, vI t2, vJ q0, .second, vI (f1 + (1 : Int32)), vI d1] [(.long (q0 * (10 : Int64)))]))
              refine Go.step (fun _ k => XS.iload X_255.here hx rfl (hb hby d_prog_1_method_2_code_42) rfl  k) ?_
              refine Go.step (fun _ k => XS.bipush X_255.here hx rfl (hb hby d_prog_1_method_2_code_44) k) ?_
              show Go p e below _ (T_255.setTop (mkF m 46 #[vR a1, vI f1, vI t2, vJ q0, .second, vI (f1 + (1 : Int32)), vI d1] [(.int (48 : Int32)), (.int d1), (.long (q0 * (10 : Int64)))]))
              refine Go.step (fun _ k => XS.isub X_255.here hx rfl (hb hby d_prog_1_method_2_code_46) rfl k) ?_
              show Go p e below _ (T_255.setTop (mkF m 47 #[vR a1, vI f1, vI t2, vJ q0, .second, vI (f1 + (1 : Int32)), vI d1] [(.int (d1 - (48 : Int32))), (.long (q0 * (10 : Int64)))]))
              refine Go.step (fun _ k => XS.i2l X_255.here hx rfl (hb hby d_prog_1_method_2_code_47) rfl k) ?_
              show Go p e below _ (T_255.setTop (mkF m 48 #[vR a1, vI f1, vI t2, vJ q0, .second, vI (f1 + (1 : Int32)), vI d1] [(.long (d1 - (48 : Int32)).toInt64), (.long (q0 * (10 : Int64)))]))
              refine Go.step (fun _ k => XS.ladd X_255.here hx rfl (hb hby d_prog_1_method_2_code_48) rfl k) ?_
              show Go p e below _ (T_255.setTop (mkF m 49 #[vR a1, vI f1, vI t2, vJ q0, .second, vI (f1 + (1 : Int32)), vI d1] [(.long ((q0 * (10 : Int64)) + (d1 - (48 : Int32)).toInt64))]))
              refine Go.step (fun _ k => XS.lstoreN X_255.here hx rfl (hb hby d_prog_1_method_2_code_49) rfl (l' := #[vR a1, vI f1, vI t2, vJ ((q0 * (10 : Int64)) + (d1 - (48 : Int32)).toInt64), .second, vI (f1 + (1 : Int32)), vI d1]) rfl k) ?_
              show Go p e below _ (T_255.setTop (mkF m 50 #[vR a1, vI f1, vI t2, vJ ((q0 * (10 : Int64)) + (d1 - (48 : Int32)).toInt64), .second, vI (f1 + (1 : Int32)), vI d1] []))
              obtain ⟨q1, h_q1⟩ : ∃ z, z = ((q0 * (10 : Int64)) + (d1 - (48 : Int32)).toInt64) := ⟨_, rfl⟩
              rw [← h_q1]
              show Go p e below _ (T_255.setTop (mkF m 50 #[vR a1, vI f1, vI t2, vJ q1, .second, vI (f1 + (1 : Int32)), vI d1] []))
              refine Go.step (fun _ k => XS.iinc X_255.here hx rfl (hb hby d_prog_1_method_2_code_50) rfl (l' := #[vR a1, vI f1, vI t2, vJ q1, .second, vI ((f1 + (1 : Int32)) + (1 : Int32)), vI d1]) rfl k) ?_
              show Go p e below _ (T_255.setTop (mkF m 53 #[vR a1, vI f1, vI t2, vJ q1, .second, vI ((f1 + (1 : Int32)) + (1 : Int32)), vI d1] []))
              refine Go.step (fun _ k => XS.goto X_255.here hx rfl (pc0 := 53) (pc' := 5) rfl (hb hby d_prog_1_method_2_code_53) (by decide) (by decide) k) ?_
              show Go p e below _ (T_255.setTop (mkF m 5 #[vR a1, vI f1, vI t2, vJ q1, .second, vI ((f1 + (1 : Int32)) + (1 : Int32)), vI d1] []))
              refine Go.step (fun _ k => XS.iload X_255.here hx rfl (hb hby d_prog_1_method_2_code_5) rfl  k) ?_
              refine Go.step (fun _ k => XS.iloadN X_255.here hx rfl (hb hby d_prog_1_method_2_code_7) rfl  k) ?_
              show Go p e below _ (T_255.setTop (mkF m 8 #[vR a1, vI f1, vI t2, vJ q1, .second, vI ((f1 + (1 : Int32)) + (1 : Int32)), vI d1] [(.int t2), (.int ((f1 + (1 : Int32)) + (1 : Int32)))]))
              by_cases x2 : ((f1 + (1 : Int32)) + (1 : Int32)) < t2
              · skip
                refine Go.step (fun _ k => XS.icmpNo X_255.here hx rfl (hb hby d_prog_1_method_2_code_8) rfl (tlt x2).2.1 k) ?_
                show Go p e below _ (T_255.setTop (mkF m 11 #[vR a1, vI f1, vI t2, vJ q1, .second, vI ((f1 + (1 : Int32)) + (1 : Int32)), vI d1] []))
                refine Go.step (fun _ k => XS.aloadN X_255.here hx rfl (hb hby d_prog_1_method_2_code_11) rfl rfl k) ?_
                refine Go.step (fun _ k => XS.iload X_255.here hx rfl (hb hby d_prog_1_method_2_code_12) rfl  k) ?_
                show Go p e below _ (T_255.setTop (mkF m 14 #[vR a1, vI f1, vI t2, vJ q1, .second, vI ((f1 + (1 : Int32)) + (1 : Int32)), vI d1] [(.int ((f1 + (1 : Int32)) + (1 : Int32))), (.ref a1)]))
                have k2' : ((f1 + (1 : Int32)) + (1 : Int32)).toInt = f1.toInt + 2 := k1
                have j2 : 0 ≤ ((f1 + (1 : Int32)) + (1 : Int32)).toInt ∧ ((f1 + (1 : Int32)) + (1 : Int32)).toInt < 6 := by have := hft; have q := x2; rw [Int32.lt_iff_toInt_lt] at q; omega
                have k2 : (((f1 + (1 : Int32)) + (1 : Int32)) + (1 : Int32)).toInt = f1.toInt + 3 := by have := plus1 k2' (by have := hft; omega); omega
                obtain ⟨v_256, T_256, L_256, X_256, hQ_256, st_256⟩ := goV X_255 hx hZ (y := Y_15) (z := Y_15) hown (wd_59 hw) (wd_60 hw) (notFace_of_selects (args := #[]) (mvT hZ (wd_62 hw))) (wd_62 hw) (wd_61 hw) (by decide) (backOf (W := 0) (rm_caU l Z a0 hw zc vfm (a1) (t1) (kt) c0 c1 c2 c3 c4 c5 (((f1 + (1 : Int32)) + (1 : Int32))) h0 n0 (Nat.le_trans Z0 KP0.1) E_a1 F_v F_c A_t h_c0 h_c1 h_c2 h_c3 h_c4 h_c5 j2 hSt hO) hZ (wd_63 hw) (wd_9 hw) (by decide) (by decide)) e_255 E_a1 (g := (mkF m 14 #[vR a1, vI f1, vI t2, vJ q1, .second, vI ((f1 + (1 : Int32)) + (1 : Int32)), vI d1] [(.int ((f1 + (1 : Int32)) + (1 : Int32))), (.ref a1)])) rfl (by rw [hml]; rfl) (argsL := [(.int ((f1 + (1 : Int32)) + (1 : Int32)))]) (rest := []) rfl (lenOf pd_13 rfl) rfl (by show 2 * 0 + _ ≤ _; exact Nat.le_of_eq rfl) (hb hby d_prog_1_method_2_code_14) (by decide) (by decide)
                obtain ⟨rfl, Nq_256, e_256⟩ := hQ_256
                have N_256 := Fr.app N_255 Nq_256
                refine Go.step st_256 ?_
                show Go p e below _ (T_256.setTop (mkF m 17 #[vR a1, vI f1, vI t2, vJ q1, .second, vI ((f1 + (1 : Int32)) + (1 : Int32)), vI d1] [(.int (sel c0 c1 c2 c3 c4 c5 ((f1 + (1 : Int32)) + (1 : Int32))))]))
                refine Go.step (fun _ k => XS.istore X_256.here hx rfl (hb hby d_prog_1_method_2_code_17) rfl (l' := #[vR a1, vI f1, vI t2, vJ q1, .second, vI ((f1 + (1 : Int32)) + (1 : Int32)), vI (sel c0 c1 c2 c3 c4 c5 ((f1 + (1 : Int32)) + (1 : Int32)))]) rfl k) ?_
                show Go p e below _ (T_256.setTop (mkF m 19 #[vR a1, vI f1, vI t2, vJ q1, .second, vI ((f1 + (1 : Int32)) + (1 : Int32)), vI (sel c0 c1 c2 c3 c4 c5 ((f1 + (1 : Int32)) + (1 : Int32)))] []))
                obtain ⟨d2, h_d2⟩ : ∃ z, z = (sel c0 c1 c2 c3 c4 c5 ((f1 + (1 : Int32)) + (1 : Int32))) := ⟨_, rfl⟩
                rw [← h_d2]
                show Go p e below _ (T_256.setTop (mkF m 19 #[vR a1, vI f1, vI t2, vJ q1, .second, vI ((f1 + (1 : Int32)) + (1 : Int32)), vI d2] []))
                refine Go.step (fun _ k => XS.iload X_256.here hx rfl (hb hby d_prog_1_method_2_code_19) rfl  k) ?_
                refine Go.step (fun _ k => XS.bipush X_256.here hx rfl (hb hby d_prog_1_method_2_code_21) k) ?_
                show Go p e below _ (T_256.setTop (mkF m 23 #[vR a1, vI f1, vI t2, vJ q1, .second, vI ((f1 + (1 : Int32)) + (1 : Int32)), vI d2] [(.int (48 : Int32)), (.int d2)]))
                by_cases y2 : d2 < (48 : Int32)
                · skip
                  refine Go.step (fun _ k => XS.icmpYes X_256.here hx rfl (pc0 := 23) (pc' := 33) rfl (hb hby d_prog_1_method_2_code_23) rfl (tlt y2).1 (by decide) (by decide) k) ?_
                  show Go p e below _ (T_256.setTop (mkF m 33 #[vR a1, vI f1, vI t2, vJ q1, .second, vI ((f1 + (1 : Int32)) + (1 : Int32)), vI d2] []))
                  refine Go.step (fun _ k => X_256.ldc2Long hx hown (mvT hZ (wd_86 hw)) (g := (mkF m 33 #[vR a1, vI f1, vI t2, vJ q1, .second, vI ((f1 + (1 : Int32)) + (1 : Int32)), vI d2] [])) rfl (hb hby d_prog_1_method_2_code_33) _ k) ?_
                  show Go p e below _ (T_256.setTop (mkF m 36 #[vR a1, vI f1, vI t2, vJ q1, .second, vI ((f1 + (1 : Int32)) + (1 : Int32)), vI d2] [(.long (-1 : Int64))]))
                  exact Go.retV X_256 hx hlk hret rfl (Or.inr (Or.inl ⟨rfl, rfl, _, rfl⟩)) (hb hby d_prog_1_method_2_code_36) (by decide) (by decide) (by rw [e_256]; exact ⟨(by subst h_q1; subst h_q0; subst h_d2; subst h_d1; subst h_d0; simp only [rdF, x0, y0, z0, x1, y1, z1, x2, y2, if_true, if_false, Int64.zero_mul]), N_256, rfl⟩)
                · skip
                  refine Go.step (fun _ k => XS.icmpNo X_256.here hx rfl (hb hby d_prog_1_method_2_code_23) rfl (flt y2).1 k) ?_
                  show Go p e below _ (T_256.setTop (mkF m 26 #[vR a1, vI f1, vI t2, vJ q1, .second, vI ((f1 + (1 : Int32)) + (1 : Int32)), vI d2] []))
                  refine Go.step (fun _ k => XS.iload X_256.here hx rfl (hb hby d_prog_1_method_2_code_26) rfl  k) ?_
                  refine Go.step (fun _ k => XS.bipush X_256.here hx rfl (hb hby d_prog_1_method_2_code_28) k) ?_
                  show Go p e below _ (T_256.setTop (mkF m 30 #[vR a1, vI f1, vI t2, vJ q1, .second, vI ((f1 + (1 : Int32)) + (1 : Int32)), vI d2] [(.int (57 : Int32)), (.int d2)]))
                  by_cases z2 : (57 : Int32) < d2
                  · skip
                    refine Go.step (fun _ k => XS.icmpNo X_256.here hx rfl (hb hby d_prog_1_method_2_code_30) rfl (tlt z2).2.2.2 k) ?_
                    show Go p e below _ (T_256.setTop (mkF m 33 #[vR a1, vI f1, vI t2, vJ q1, .second, vI ((f1 + (1 : Int32)) + (1 : Int32)), vI d2] []))
                    refine Go.step (fun _ k => X_256.ldc2Long hx hown (mvT hZ (wd_86 hw)) (g := (mkF m 33 #[vR a1, vI f1, vI t2, vJ q1, .second, vI ((f1 + (1 : Int32)) + (1 : Int32)), vI d2] [])) rfl (hb hby d_prog_1_method_2_code_33) _ k) ?_
                    show Go p e below _ (T_256.setTop (mkF m 36 #[vR a1, vI f1, vI t2, vJ q1, .second, vI ((f1 + (1 : Int32)) + (1 : Int32)), vI d2] [(.long (-1 : Int64))]))
                    exact Go.retV X_256 hx hlk hret rfl (Or.inr (Or.inl ⟨rfl, rfl, _, rfl⟩)) (hb hby d_prog_1_method_2_code_36) (by decide) (by decide) (by rw [e_256]; exact ⟨(by subst h_q1; subst h_q0; subst h_d2; subst h_d1; subst h_d0; simp only [rdF, x0, y0, z0, x1, y1, z1, x2, y2, z2, if_true, if_false, Int64.zero_mul]), N_256, rfl⟩)
                  · skip
                    refine Go.step (fun _ k => XS.icmpYes X_256.here hx rfl (pc0 := 30) (pc' := 37) rfl (hb hby d_prog_1_method_2_code_30) rfl (flt z2).2.2.2 (by decide) (by decide) k) ?_
                    show Go p e below _ (T_256.setTop (mkF m 37 #[vR a1, vI f1, vI t2, vJ q1, .second, vI ((f1 + (1 : Int32)) + (1 : Int32)), vI d2] []))
                    refine Go.step (fun _ k => XS.lloadN X_256.here hx rfl (hb hby d_prog_1_method_2_code_37) rfl  k) ?_
                    show Go p e below _ (T_256.setTop (mkF m 38 #[vR a1, vI f1, vI t2, vJ q1, .second, vI ((f1 + (1 : Int32)) + (1 : Int32)), vI d2] [(.long q1)]))
                    refine Go.step (fun _ k => X_256.ldc2Long hx hown (mvT hZ (wd_98 hw)) (g := (mkF m 38 #[vR a1, vI f1, vI t2, vJ q1, .second, vI ((f1 + (1 : Int32)) + (1 : Int32)), vI d2] [(.long q1)])) rfl (hb hby d_prog_1_method_2_code_38) _ k) ?_
                    show Go p e below _ (T_256.setTop (mkF m 41 #[vR a1, vI f1, vI t2, vJ q1, .second, vI ((f1 + (1 : Int32)) + (1 : Int32)), vI d2] [(.long (10 : Int64)), (.long q1)]))
                    refine Go.step (fun _ k => XS.lmul X_256.here hx rfl (hb hby d_prog_1_method_2_code_41) rfl k) ?_
                    show Go p e below _ (T_256.setTop (mkF m 42 #[vR a1, vI f1, vI t2, vJ q1, .second, vI ((f1 + (1 : Int32)) + (1 : Int32)), vI d2] [(.long (q1 * (10 : Int64)))]))
                    refine Go.step (fun _ k => XS.iload X_256.here hx rfl (hb hby d_prog_1_method_2_code_42) rfl  k) ?_
                    refine Go.step (fun _ k => XS.bipush X_256.here hx rfl (hb hby d_prog_1_method_2_code_44) k) ?_
                    show Go p e below _ (T_256.setTop (mkF m 46 #[vR a1, vI f1, vI t2, vJ q1, .second, vI ((f1 + (1 : Int32)) + (1 : Int32)), vI d2] [(.int (48 : Int32)), (.int d2), (.long (q1 * (10 : Int64)))]))
                    refine Go.step (fun _ k => XS.isub X_256.here hx rfl (hb hby d_prog_1_method_2_code_46) rfl k) ?_
                    show Go p e below _ (T_256.setTop (mkF m 47 #[vR a1, vI f1, vI t2, vJ q1, .second, vI ((f1 + (1 : Int32)) + (1 : Int32)), vI d2] [(.int (d2 - (48 : Int32))), (.long (q1 * (10 : Int64)))]))
                    refine Go.step (fun _ k => XS.i2l X_256.here hx rfl (hb hby d_prog_1_method_2_code_47) rfl k) ?_
                    show Go p e below _ (T_256.setTop (mkF m 48 #[vR a1, vI f1, vI t2, vJ q1, .second, vI ((f1 + (1 : Int32)) + (1 : Int32)), vI d2] [(.long (d2 - (48 : Int32)).toInt64), (.long (q1 * (10 : Int64)))]))
                    refine Go.step (fun _ k => XS.ladd X_256.here hx rfl (hb hby d_prog_1_method_2_code_48) rfl k) ?_
                    show Go p e below _ (T_256.setTop (mkF m 49 #[vR a1, vI f1, vI t2, vJ q1, .second, vI ((f1 + (1 : Int32)) + (1 : Int32)), vI d2] [(.long ((q1 * (10 : Int64)) + (d2 - (48 : Int32)).toInt64))]))
                    refine Go.step (fun _ k => XS.lstoreN X_256.here hx rfl (hb hby d_prog_1_method_2_code_49) rfl (l' := #[vR a1, vI f1, vI t2, vJ ((q1 * (10 : Int64)) + (d2 - (48 : Int32)).toInt64), .second, vI ((f1 + (1 : Int32)) + (1 : Int32)), vI d2]) rfl k) ?_
                    show Go p e below _ (T_256.setTop (mkF m 50 #[vR a1, vI f1, vI t2, vJ ((q1 * (10 : Int64)) + (d2 - (48 : Int32)).toInt64), .second, vI ((f1 + (1 : Int32)) + (1 : Int32)), vI d2] []))
                    obtain ⟨q2, h_q2⟩ : ∃ z, z = ((q1 * (10 : Int64)) + (d2 - (48 : Int32)).toInt64) := ⟨_, rfl⟩
                    rw [← h_q2]
                    show Go p e below _ (T_256.setTop (mkF m 50 #[vR a1, vI f1, vI t2, vJ q2, .second, vI ((f1 + (1 : Int32)) + (1 : Int32)), vI d2] []))
                    refine Go.step (fun _ k => XS.iinc X_256.here hx rfl (hb hby d_prog_1_method_2_code_50) rfl (l' := #[vR a1, vI f1, vI t2, vJ q2, .second, vI (((f1 + (1 : Int32)) + (1 : Int32)) + (1 : Int32)), vI d2]) rfl k) ?_
                    show Go p e below _ (T_256.setTop (mkF m 53 #[vR a1, vI f1, vI t2, vJ q2, .second, vI (((f1 + (1 : Int32)) + (1 : Int32)) + (1 : Int32)), vI d2] []))
                    refine Go.step (fun _ k => XS.goto X_256.here hx rfl (pc0 := 53) (pc' := 5) rfl (hb hby d_prog_1_method_2_code_53) (by decide) (by decide) k) ?_
                    show Go p e below _ (T_256.setTop (mkF m 5 #[vR a1, vI f1, vI t2, vJ q2, .second, vI (((f1 + (1 : Int32)) + (1 : Int32)) + (1 : Int32)), vI d2] []))
                    refine Go.step (fun _ k => XS.iload X_256.here hx rfl (hb hby d_prog_1_method_2_code_5) rfl  k) ?_
                    refine Go.step (fun _ k => XS.iloadN X_256.here hx rfl (hb hby d_prog_1_method_2_code_7) rfl  k) ?_
                    show Go p e below _ (T_256.setTop (mkF m 8 #[vR a1, vI f1, vI t2, vJ q2, .second, vI (((f1 + (1 : Int32)) + (1 : Int32)) + (1 : Int32)), vI d2] [(.int t2), (.int (((f1 + (1 : Int32)) + (1 : Int32)) + (1 : Int32)))]))
                    by_cases x3 : (((f1 + (1 : Int32)) + (1 : Int32)) + (1 : Int32)) < t2
                    · skip
                      refine Go.step (fun _ k => XS.icmpNo X_256.here hx rfl (hb hby d_prog_1_method_2_code_8) rfl (tlt x3).2.1 k) ?_
                      show Go p e below _ (T_256.setTop (mkF m 11 #[vR a1, vI f1, vI t2, vJ q2, .second, vI (((f1 + (1 : Int32)) + (1 : Int32)) + (1 : Int32)), vI d2] []))
                      refine Go.step (fun _ k => XS.aloadN X_256.here hx rfl (hb hby d_prog_1_method_2_code_11) rfl rfl k) ?_
                      refine Go.step (fun _ k => XS.iload X_256.here hx rfl (hb hby d_prog_1_method_2_code_12) rfl  k) ?_
                      show Go p e below _ (T_256.setTop (mkF m 14 #[vR a1, vI f1, vI t2, vJ q2, .second, vI (((f1 + (1 : Int32)) + (1 : Int32)) + (1 : Int32)), vI d2] [(.int (((f1 + (1 : Int32)) + (1 : Int32)) + (1 : Int32))), (.ref a1)]))
                      have k3' : (((f1 + (1 : Int32)) + (1 : Int32)) + (1 : Int32)).toInt = f1.toInt + 3 := k2
                      have j3 : 0 ≤ (((f1 + (1 : Int32)) + (1 : Int32)) + (1 : Int32)).toInt ∧ (((f1 + (1 : Int32)) + (1 : Int32)) + (1 : Int32)).toInt < 6 := by have := hft; have q := x3; rw [Int32.lt_iff_toInt_lt] at q; omega
                      have k3 : ((((f1 + (1 : Int32)) + (1 : Int32)) + (1 : Int32)) + (1 : Int32)).toInt = f1.toInt + 4 := by have := plus1 k3' (by have := hft; omega); omega
                      obtain ⟨v_257, T_257, L_257, X_257, hQ_257, st_257⟩ := goV X_256 hx hZ (y := Y_15) (z := Y_15) hown (wd_59 hw) (wd_60 hw) (notFace_of_selects (args := #[]) (mvT hZ (wd_62 hw))) (wd_62 hw) (wd_61 hw) (by decide) (backOf (W := 0) (rm_caU l Z a0 hw zc vfm (a1) (t1) (kt) c0 c1 c2 c3 c4 c5 ((((f1 + (1 : Int32)) + (1 : Int32)) + (1 : Int32))) h0 n0 (Nat.le_trans Z0 KP0.1) E_a1 F_v F_c A_t h_c0 h_c1 h_c2 h_c3 h_c4 h_c5 j3 hSt hO) hZ (wd_63 hw) (wd_9 hw) (by decide) (by decide)) e_256 E_a1 (g := (mkF m 14 #[vR a1, vI f1, vI t2, vJ q2, .second, vI (((f1 + (1 : Int32)) + (1 : Int32)) + (1 : Int32)), vI d2] [(.int (((f1 + (1 : Int32)) + (1 : Int32)) + (1 : Int32))), (.ref a1)])) rfl (by rw [hml]; rfl) (argsL := [(.int (((f1 + (1 : Int32)) + (1 : Int32)) + (1 : Int32)))]) (rest := []) rfl (lenOf pd_13 rfl) rfl (by show 2 * 0 + _ ≤ _; exact Nat.le_of_eq rfl) (hb hby d_prog_1_method_2_code_14) (by decide) (by decide)
                      obtain ⟨rfl, Nq_257, e_257⟩ := hQ_257
                      have N_257 := Fr.app N_256 Nq_257
                      refine Go.step st_257 ?_
                      show Go p e below _ (T_257.setTop (mkF m 17 #[vR a1, vI f1, vI t2, vJ q2, .second, vI (((f1 + (1 : Int32)) + (1 : Int32)) + (1 : Int32)), vI d2] [(.int (sel c0 c1 c2 c3 c4 c5 (((f1 + (1 : Int32)) + (1 : Int32)) + (1 : Int32))))]))
                      refine Go.step (fun _ k => XS.istore X_257.here hx rfl (hb hby d_prog_1_method_2_code_17) rfl (l' := #[vR a1, vI f1, vI t2, vJ q2, .second, vI (((f1 + (1 : Int32)) + (1 : Int32)) + (1 : Int32)), vI (sel c0 c1 c2 c3 c4 c5 (((f1 + (1 : Int32)) + (1 : Int32)) + (1 : Int32)))]) rfl k) ?_
                      show Go p e below _ (T_257.setTop (mkF m 19 #[vR a1, vI f1, vI t2, vJ q2, .second, vI (((f1 + (1 : Int32)) + (1 : Int32)) + (1 : Int32)), vI (sel c0 c1 c2 c3 c4 c5 (((f1 + (1 : Int32)) + (1 : Int32)) + (1 : Int32)))] []))
                      obtain ⟨d3, h_d3⟩ : ∃ z, z = (sel c0 c1 c2 c3 c4 c5 (((f1 + (1 : Int32)) + (1 : Int32)) + (1 : Int32))) := ⟨_, rfl⟩
                      rw [← h_d3]
                      show Go p e below _ (T_257.setTop (mkF m 19 #[vR a1, vI f1, vI t2, vJ q2, .second, vI (((f1 + (1 : Int32)) + (1 : Int32)) + (1 : Int32)), vI d3] []))
                      refine Go.step (fun _ k => XS.iload X_257.here hx rfl (hb hby d_prog_1_method_2_code_19) rfl  k) ?_
                      refine Go.step (fun _ k => XS.bipush X_257.here hx rfl (hb hby d_prog_1_method_2_code_21) k) ?_
                      show Go p e below _ (T_257.setTop (mkF m 23 #[vR a1, vI f1, vI t2, vJ q2, .second, vI (((f1 + (1 : Int32)) + (1 : Int32)) + (1 : Int32)), vI d3] [(.int (48 : Int32)), (.int d3)]))
                      by_cases y3 : d3 < (48 : Int32)
                      · skip
                        refine Go.step (fun _ k => XS.icmpYes X_257.here hx rfl (pc0 := 23) (pc' := 33) rfl (hb hby d_prog_1_method_2_code_23) rfl (tlt y3).1 (by decide) (by decide) k) ?_
                        show Go p e below _ (T_257.setTop (mkF m 33 #[vR a1, vI f1, vI t2, vJ q2, .second, vI (((f1 + (1 : Int32)) + (1 : Int32)) + (1 : Int32)), vI d3] []))
                        refine Go.step (fun _ k => X_257.ldc2Long hx hown (mvT hZ (wd_86 hw)) (g := (mkF m 33 #[vR a1, vI f1, vI t2, vJ q2, .second, vI (((f1 + (1 : Int32)) + (1 : Int32)) + (1 : Int32)), vI d3] [])) rfl (hb hby d_prog_1_method_2_code_33) _ k) ?_
                        show Go p e below _ (T_257.setTop (mkF m 36 #[vR a1, vI f1, vI t2, vJ q2, .second, vI (((f1 + (1 : Int32)) + (1 : Int32)) + (1 : Int32)), vI d3] [(.long (-1 : Int64))]))
                        exact Go.retV X_257 hx hlk hret rfl (Or.inr (Or.inl ⟨rfl, rfl, _, rfl⟩)) (hb hby d_prog_1_method_2_code_36) (by decide) (by decide) (by rw [e_257]; exact ⟨(by subst h_q2; subst h_q1; subst h_q0; subst h_d3; subst h_d2; subst h_d1; subst h_d0; simp only [rdF, x0, y0, z0, x1, y1, z1, x2, y2, z2, x3, y3, if_true, if_false, Int64.zero_mul]), N_257, rfl⟩)
                      · skip
                        refine Go.step (fun _ k => XS.icmpNo X_257.here hx rfl (hb hby d_prog_1_method_2_code_23) rfl (flt y3).1 k) ?_
                        show Go p e below _ (T_257.setTop (mkF m 26 #[vR a1, vI f1, vI t2, vJ q2, .second, vI (((f1 + (1 : Int32)) + (1 : Int32)) + (1 : Int32)), vI d3] []))
                        refine Go.step (fun _ k => XS.iload X_257.here hx rfl (hb hby d_prog_1_method_2_code_26) rfl  k) ?_
                        refine Go.step (fun _ k => XS.bipush X_257.here hx rfl (hb hby d_prog_1_method_2_code_28) k) ?_
                        show Go p e below _ (T_257.setTop (mkF m 30 #[vR a1, vI f1, vI t2, vJ q2, .second, vI (((f1 + (1 : Int32)) + (1 : Int32)) + (1 : Int32)), vI d3] [(.int (57 : Int32)), (.int d3)]))
                        by_cases z3 : (57 : Int32) < d3
                        · skip
                          refine Go.step (fun _ k => XS.icmpNo X_257.here hx rfl (hb hby d_prog_1_method_2_code_30) rfl (tlt z3).2.2.2 k) ?_
                          show Go p e below _ (T_257.setTop (mkF m 33 #[vR a1, vI f1, vI t2, vJ q2, .second, vI (((f1 + (1 : Int32)) + (1 : Int32)) + (1 : Int32)), vI d3] []))
                          refine Go.step (fun _ k => X_257.ldc2Long hx hown (mvT hZ (wd_86 hw)) (g := (mkF m 33 #[vR a1, vI f1, vI t2, vJ q2, .second, vI (((f1 + (1 : Int32)) + (1 : Int32)) + (1 : Int32)), vI d3] [])) rfl (hb hby d_prog_1_method_2_code_33) _ k) ?_
                          show Go p e below _ (T_257.setTop (mkF m 36 #[vR a1, vI f1, vI t2, vJ q2, .second, vI (((f1 + (1 : Int32)) + (1 : Int32)) + (1 : Int32)), vI d3] [(.long (-1 : Int64))]))
                          exact Go.retV X_257 hx hlk hret rfl (Or.inr (Or.inl ⟨rfl, rfl, _, rfl⟩)) (hb hby d_prog_1_method_2_code_36) (by decide) (by decide) (by rw [e_257]; exact ⟨(by subst h_q2; subst h_q1; subst h_q0; subst h_d3; subst h_d2; subst h_d1; subst h_d0; simp only [rdF, x0, y0, z0, x1, y1, z1, x2, y2, z2, x3, y3, z3, if_true, if_false, Int64.zero_mul]), N_257, rfl⟩)
                        · skip
                          refine Go.step (fun _ k => XS.icmpYes X_257.here hx rfl (pc0 := 30) (pc' := 37) rfl (hb hby d_prog_1_method_2_code_30) rfl (flt z3).2.2.2 (by decide) (by decide) k) ?_
                          show Go p e below _ (T_257.setTop (mkF m 37 #[vR a1, vI f1, vI t2, vJ q2, .second, vI (((f1 + (1 : Int32)) + (1 : Int32)) + (1 : Int32)), vI d3] []))
                          refine Go.step (fun _ k => XS.lloadN X_257.here hx rfl (hb hby d_prog_1_method_2_code_37) rfl  k) ?_
                          show Go p e below _ (T_257.setTop (mkF m 38 #[vR a1, vI f1, vI t2, vJ q2, .second, vI (((f1 + (1 : Int32)) + (1 : Int32)) + (1 : Int32)), vI d3] [(.long q2)]))
                          refine Go.step (fun _ k => X_257.ldc2Long hx hown (mvT hZ (wd_98 hw)) (g := (mkF m 38 #[vR a1, vI f1, vI t2, vJ q2, .second, vI (((f1 + (1 : Int32)) + (1 : Int32)) + (1 : Int32)), vI d3] [(.long q2)])) rfl (hb hby d_prog_1_method_2_code_38) _ k) ?_
                          show Go p e below _ (T_257.setTop (mkF m 41 #[vR a1, vI f1, vI t2, vJ q2, .second, vI (((f1 + (1 : Int32)) + (1 : Int32)) + (1 : Int32)), vI d3] [(.long (10 : Int64)), (.long q2)]))
                          refine Go.step (fun _ k => XS.lmul X_257.here hx rfl (hb hby d_prog_1_method_2_code_41) rfl k) ?_
                          show Go p e below _ (T_257.setTop (mkF m 42 #[vR a1, vI f1, vI t2, vJ q2, .second, vI (((f1 + (1 : Int32)) + (1 : Int32)) + (1 : Int32)), vI d3] [(.long (q2 * (10 : Int64)))]))
                          refine Go.step (fun _ k => XS.iload X_257.here hx rfl (hb hby d_prog_1_method_2_code_42) rfl  k) ?_
                          refine Go.step (fun _ k => XS.bipush X_257.here hx rfl (hb hby d_prog_1_method_2_code_44) k) ?_
                          show Go p e below _ (T_257.setTop (mkF m 46 #[vR a1, vI f1, vI t2, vJ q2, .second, vI (((f1 + (1 : Int32)) + (1 : Int32)) + (1 : Int32)), vI d3] [(.int (48 : Int32)), (.int d3), (.long (q2 * (10 : Int64)))]))
                          refine Go.step (fun _ k => XS.isub X_257.here hx rfl (hb hby d_prog_1_method_2_code_46) rfl k) ?_
                          show Go p e below _ (T_257.setTop (mkF m 47 #[vR a1, vI f1, vI t2, vJ q2, .second, vI (((f1 + (1 : Int32)) + (1 : Int32)) + (1 : Int32)), vI d3] [(.int (d3 - (48 : Int32))), (.long (q2 * (10 : Int64)))]))
                          refine Go.step (fun _ k => XS.i2l X_257.here hx rfl (hb hby d_prog_1_method_2_code_47) rfl k) ?_
                          show Go p e below _ (T_257.setTop (mkF m 48 #[vR a1, vI f1, vI t2, vJ q2, .second, vI (((f1 + (1 : Int32)) + (1 : Int32)) + (1 : Int32)), vI d3] [(.long (d3 - (48 : Int32)).toInt64), (.long (q2 * (10 : Int64)))]))
                          refine Go.step (fun _ k => XS.ladd X_257.here hx rfl (hb hby d_prog_1_method_2_code_48) rfl k) ?_
                          show Go p e below _ (T_257.setTop (mkF m 49 #[vR a1, vI f1, vI t2, vJ q2, .second, vI (((f1 + (1 : Int32)) + (1 : Int32)) + (1 : Int32)), vI d3] [(.long ((q2 * (10 : Int64)) + (d3 - (48 : Int32)).toInt64))]))
                          refine Go.step (fun _ k => XS.lstoreN X_257.here hx rfl (hb hby d_prog_1_method_2_code_49) rfl (l' := #[vR a1, vI f1, vI t2, vJ ((q2 * (10 : Int64)) + (d3 - (48 : Int32)).toInt64), .second, vI (((f1 + (1 : Int32)) + (1 : Int32)) + (1 : Int32)), vI d3]) rfl k) ?_
                          show Go p e below _ (T_257.setTop (mkF m 50 #[vR a1, vI f1, vI t2, vJ ((q2 * (10 : Int64)) + (d3 - (48 : Int32)).toInt64), .second, vI (((f1 + (1 : Int32)) + (1 : Int32)) + (1 : Int32)), vI d3] []))
                          obtain ⟨q3, h_q3⟩ : ∃ z, z = ((q2 * (10 : Int64)) + (d3 - (48 : Int32)).toInt64) := ⟨_, rfl⟩
                          rw [← h_q3]
                          show Go p e below _ (T_257.setTop (mkF m 50 #[vR a1, vI f1, vI t2, vJ q3, .second, vI (((f1 + (1 : Int32)) + (1 : Int32)) + (1 : Int32)), vI d3] []))
                          refine Go.step (fun _ k => XS.iinc X_257.here hx rfl (hb hby d_prog_1_method_2_code_50) rfl (l' := #[vR a1, vI f1, vI t2, vJ q3, .second, vI ((((f1 + (1 : Int32)) + (1 : Int32)) + (1 : Int32)) + (1 : Int32)), vI d3]) rfl k) ?_
                          show Go p e below _ (T_257.setTop (mkF m 53 #[vR a1, vI f1, vI t2, vJ q3, .second, vI ((((f1 + (1 : Int32)) + (1 : Int32)) + (1 : Int32)) + (1 : Int32)), vI d3] []))
                          refine Go.step (fun _ k => XS.goto X_257.here hx rfl (pc0 := 53) (pc' := 5) rfl (hb hby d_prog_1_method_2_code_53) (by decide) (by decide) k) ?_
                          show Go p e below _ (T_257.setTop (mkF m 5 #[vR a1, vI f1, vI t2, vJ q3, .second, vI ((((f1 + (1 : Int32)) + (1 : Int32)) + (1 : Int32)) + (1 : Int32)), vI d3] []))
                          refine Go.step (fun _ k => XS.iload X_257.here hx rfl (hb hby d_prog_1_method_2_code_5) rfl  k) ?_
                          refine Go.step (fun _ k => XS.iloadN X_257.here hx rfl (hb hby d_prog_1_method_2_code_7) rfl  k) ?_
                          show Go p e below _ (T_257.setTop (mkF m 8 #[vR a1, vI f1, vI t2, vJ q3, .second, vI ((((f1 + (1 : Int32)) + (1 : Int32)) + (1 : Int32)) + (1 : Int32)), vI d3] [(.int t2), (.int ((((f1 + (1 : Int32)) + (1 : Int32)) + (1 : Int32)) + (1 : Int32)))]))
                          by_cases x4 : ((((f1 + (1 : Int32)) + (1 : Int32)) + (1 : Int32)) + (1 : Int32)) < t2
                          · skip
                            refine Go.step (fun _ k => XS.icmpNo X_257.here hx rfl (hb hby d_prog_1_method_2_code_8) rfl (tlt x4).2.1 k) ?_
                            show Go p e below _ (T_257.setTop (mkF m 11 #[vR a1, vI f1, vI t2, vJ q3, .second, vI ((((f1 + (1 : Int32)) + (1 : Int32)) + (1 : Int32)) + (1 : Int32)), vI d3] []))
                            refine Go.step (fun _ k => XS.aloadN X_257.here hx rfl (hb hby d_prog_1_method_2_code_11) rfl rfl k) ?_
                            refine Go.step (fun _ k => XS.iload X_257.here hx rfl (hb hby d_prog_1_method_2_code_12) rfl  k) ?_
                            show Go p e below _ (T_257.setTop (mkF m 14 #[vR a1, vI f1, vI t2, vJ q3, .second, vI ((((f1 + (1 : Int32)) + (1 : Int32)) + (1 : Int32)) + (1 : Int32)), vI d3] [(.int ((((f1 + (1 : Int32)) + (1 : Int32)) + (1 : Int32)) + (1 : Int32))), (.ref a1)]))
                            have k4' : ((((f1 + (1 : Int32)) + (1 : Int32)) + (1 : Int32)) + (1 : Int32)).toInt = f1.toInt + 4 := k3
                            have j4 : 0 ≤ ((((f1 + (1 : Int32)) + (1 : Int32)) + (1 : Int32)) + (1 : Int32)).toInt ∧ ((((f1 + (1 : Int32)) + (1 : Int32)) + (1 : Int32)) + (1 : Int32)).toInt < 6 := by have := hft; have q := x4; rw [Int32.lt_iff_toInt_lt] at q; omega
                            have k4 : (((((f1 + (1 : Int32)) + (1 : Int32)) + (1 : Int32)) + (1 : Int32)) + (1 : Int32)).toInt = f1.toInt + 5 := by have := plus1 k4' (by have := hft; omega); omega
                            obtain ⟨v_258, T_258, L_258, X_258, hQ_258, st_258⟩ := goV X_257 hx hZ (y := Y_15) (z := Y_15) hown (wd_59 hw) (wd_60 hw) (notFace_of_selects (args := #[]) (mvT hZ (wd_62 hw))) (wd_62 hw) (wd_61 hw) (by decide) (backOf (W := 0) (rm_caU l Z a0 hw zc vfm (a1) (t1) (kt) c0 c1 c2 c3 c4 c5 (((((f1 + (1 : Int32)) + (1 : Int32)) + (1 : Int32)) + (1 : Int32))) h0 n0 (Nat.le_trans Z0 KP0.1) E_a1 F_v F_c A_t h_c0 h_c1 h_c2 h_c3 h_c4 h_c5 j4 hSt hO) hZ (wd_63 hw) (wd_9 hw) (by decide) (by decide)) e_257 E_a1 (g := (mkF m 14 #[vR a1, vI f1, vI t2, vJ q3, .second, vI ((((f1 + (1 : Int32)) + (1 : Int32)) + (1 : Int32)) + (1 : Int32)), vI d3] [(.int ((((f1 + (1 : Int32)) + (1 : Int32)) + (1 : Int32)) + (1 : Int32))), (.ref a1)])) rfl (by rw [hml]; rfl) (argsL := [(.int ((((f1 + (1 : Int32)) + (1 : Int32)) + (1 : Int32)) + (1 : Int32)))]) (rest := []) rfl (lenOf pd_13 rfl) rfl (by show 2 * 0 + _ ≤ _; exact Nat.le_of_eq rfl) (hb hby d_prog_1_method_2_code_14) (by decide) (by decide)
                            obtain ⟨rfl, Nq_258, e_258⟩ := hQ_258
                            have N_258 := Fr.app N_257 Nq_258
                            refine Go.step st_258 ?_
                            show Go p e below _ (T_258.setTop (mkF m 17 #[vR a1, vI f1, vI t2, vJ q3, .second, vI ((((f1 + (1 : Int32)) + (1 : Int32)) + (1 : Int32)) + (1 : Int32)), vI d3] [(.int (sel c0 c1 c2 c3 c4 c5 ((((f1 + (1 : Int32)) + (1 : Int32)) + (1 : Int32)) + (1 : Int32))))]))
                            refine Go.step (fun _ k => XS.istore X_258.here hx rfl (hb hby d_prog_1_method_2_code_17) rfl (l' := #[vR a1, vI f1, vI t2, vJ q3, .second, vI ((((f1 + (1 : Int32)) + (1 : Int32)) + (1 : Int32)) + (1 : Int32)), vI (sel c0 c1 c2 c3 c4 c5 ((((f1 + (1 : Int32)) + (1 : Int32)) + (1 : Int32)) + (1 : Int32)))]) rfl k) ?_
                            show Go p e below _ (T_258.setTop (mkF m 19 #[vR a1, vI f1, vI t2, vJ q3, .second, vI ((((f1 + (1 : Int32)) + (1 : Int32)) + (1 : Int32)) + (1 : Int32)), vI (sel c0 c1 c2 c3 c4 c5 ((((f1 + (1 : Int32)) + (1 : Int32)) + (1 : Int32)) + (1 : Int32)))] []))
                            obtain ⟨d4, h_d4⟩ : ∃ z, z = (sel c0 c1 c2 c3 c4 c5 ((((f1 + (1 : Int32)) + (1 : Int32)) + (1 : Int32)) + (1 : Int32))) := ⟨_, rfl⟩
                            rw [← h_d4]
                            show Go p e below _ (T_258.setTop (mkF m 19 #[vR a1, vI f1, vI t2, vJ q3, .second, vI ((((f1 + (1 : Int32)) + (1 : Int32)) + (1 : Int32)) + (1 : Int32)), vI d4] []))
                            refine Go.step (fun _ k => XS.iload X_258.here hx rfl (hb hby d_prog_1_method_2_code_19) rfl  k) ?_
                            refine Go.step (fun _ k => XS.bipush X_258.here hx rfl (hb hby d_prog_1_method_2_code_21) k) ?_
                            show Go p e below _ (T_258.setTop (mkF m 23 #[vR a1, vI f1, vI t2, vJ q3, .second, vI ((((f1 + (1 : Int32)) + (1 : Int32)) + (1 : Int32)) + (1 : Int32)), vI d4] [(.int (48 : Int32)), (.int d4)]))
                            by_cases y4 : d4 < (48 : Int32)
                            · skip
                              refine Go.step (fun _ k => XS.icmpYes X_258.here hx rfl (pc0 := 23) (pc' := 33) rfl (hb hby d_prog_1_method_2_code_23) rfl (tlt y4).1 (by decide) (by decide) k) ?_
                              show Go p e below _ (T_258.setTop (mkF m 33 #[vR a1, vI f1, vI t2, vJ q3, .second, vI ((((f1 + (1 : Int32)) + (1 : Int32)) + (1 : Int32)) + (1 : Int32)), vI d4] []))
                              refine Go.step (fun _ k => X_258.ldc2Long hx hown (mvT hZ (wd_86 hw)) (g := (mkF m 33 #[vR a1, vI f1, vI t2, vJ q3, .second, vI ((((f1 + (1 : Int32)) + (1 : Int32)) + (1 : Int32)) + (1 : Int32)), vI d4] [])) rfl (hb hby d_prog_1_method_2_code_33) _ k) ?_
                              show Go p e below _ (T_258.setTop (mkF m 36 #[vR a1, vI f1, vI t2, vJ q3, .second, vI ((((f1 + (1 : Int32)) + (1 : Int32)) + (1 : Int32)) + (1 : Int32)), vI d4] [(.long (-1 : Int64))]))
                              exact Go.retV X_258 hx hlk hret rfl (Or.inr (Or.inl ⟨rfl, rfl, _, rfl⟩)) (hb hby d_prog_1_method_2_code_36) (by decide) (by decide) (by rw [e_258]; exact ⟨(by subst h_q3; subst h_q2; subst h_q1; subst h_q0; subst h_d4; subst h_d3; subst h_d2; subst h_d1; subst h_d0; simp only [rdF, x0, y0, z0, x1, y1, z1, x2, y2, z2, x3, y3, z3, x4, y4, if_true, if_false, Int64.zero_mul]), N_258, rfl⟩)
                            · skip
                              refine Go.step (fun _ k => XS.icmpNo X_258.here hx rfl (hb hby d_prog_1_method_2_code_23) rfl (flt y4).1 k) ?_
                              show Go p e below _ (T_258.setTop (mkF m 26 #[vR a1, vI f1, vI t2, vJ q3, .second, vI ((((f1 + (1 : Int32)) + (1 : Int32)) + (1 : Int32)) + (1 : Int32)), vI d4] []))
                              refine Go.step (fun _ k => XS.iload X_258.here hx rfl (hb hby d_prog_1_method_2_code_26) rfl  k) ?_
                              refine Go.step (fun _ k => XS.bipush X_258.here hx rfl (hb hby d_prog_1_method_2_code_28) k) ?_
                              show Go p e below _ (T_258.setTop (mkF m 30 #[vR a1, vI f1, vI t2, vJ q3, .second, vI ((((f1 + (1 : Int32)) + (1 : Int32)) + (1 : Int32)) + (1 : Int32)), vI d4] [(.int (57 : Int32)), (.int d4)]))
                              by_cases z4 : (57 : Int32) < d4
                              · skip
                                refine Go.step (fun _ k => XS.icmpNo X_258.here hx rfl (hb hby d_prog_1_method_2_code_30) rfl (tlt z4).2.2.2 k) ?_
                                show Go p e below _ (T_258.setTop (mkF m 33 #[vR a1, vI f1, vI t2, vJ q3, .second, vI ((((f1 + (1 : Int32)) + (1 : Int32)) + (1 : Int32)) + (1 : Int32)), vI d4] []))
                                refine Go.step (fun _ k => X_258.ldc2Long hx hown (mvT hZ (wd_86 hw)) (g := (mkF m 33 #[vR a1, vI f1, vI t2, vJ q3, .second, vI ((((f1 + (1 : Int32)) + (1 : Int32)) + (1 : Int32)) + (1 : Int32)), vI d4] [])) rfl (hb hby d_prog_1_method_2_code_33) _ k) ?_
                                show Go p e below _ (T_258.setTop (mkF m 36 #[vR a1, vI f1, vI t2, vJ q3, .second, vI ((((f1 + (1 : Int32)) + (1 : Int32)) + (1 : Int32)) + (1 : Int32)), vI d4] [(.long (-1 : Int64))]))
                                exact Go.retV X_258 hx hlk hret rfl (Or.inr (Or.inl ⟨rfl, rfl, _, rfl⟩)) (hb hby d_prog_1_method_2_code_36) (by decide) (by decide) (by rw [e_258]; exact ⟨(by subst h_q3; subst h_q2; subst h_q1; subst h_q0; subst h_d4; subst h_d3; subst h_d2; subst h_d1; subst h_d0; simp only [rdF, x0, y0, z0, x1, y1, z1, x2, y2, z2, x3, y3, z3, x4, y4, z4, if_true, if_false, Int64.zero_mul]), N_258, rfl⟩)
                              · skip
                                refine Go.step (fun _ k => XS.icmpYes X_258.here hx rfl (pc0 := 30) (pc' := 37) rfl (hb hby d_prog_1_method_2_code_30) rfl (flt z4).2.2.2 (by decide) (by decide) k) ?_
                                show Go p e below _ (T_258.setTop (mkF m 37 #[vR a1, vI f1, vI t2, vJ q3, .second, vI ((((f1 + (1 : Int32)) + (1 : Int32)) + (1 : Int32)) + (1 : Int32)), vI d4] []))
                                refine Go.step (fun _ k => XS.lloadN X_258.here hx rfl (hb hby d_prog_1_method_2_code_37) rfl  k) ?_
                                show Go p e below _ (T_258.setTop (mkF m 38 #[vR a1, vI f1, vI t2, vJ q3, .second, vI ((((f1 + (1 : Int32)) + (1 : Int32)) + (1 : Int32)) + (1 : Int32)), vI d4] [(.long q3)]))
                                refine Go.step (fun _ k => X_258.ldc2Long hx hown (mvT hZ (wd_98 hw)) (g := (mkF m 38 #[vR a1, vI f1, vI t2, vJ q3, .second, vI ((((f1 + (1 : Int32)) + (1 : Int32)) + (1 : Int32)) + (1 : Int32)), vI d4] [(.long q3)])) rfl (hb hby d_prog_1_method_2_code_38) _ k) ?_
                                show Go p e below _ (T_258.setTop (mkF m 41 #[vR a1, vI f1, vI t2, vJ q3, .second, vI ((((f1 + (1 : Int32)) + (1 : Int32)) + (1 : Int32)) + (1 : Int32)), vI d4] [(.long (10 : Int64)), (.long q3)]))
                                refine Go.step (fun _ k => XS.lmul X_258.here hx rfl (hb hby d_prog_1_method_2_code_41) rfl k) ?_
                                show Go p e below _ (T_258.setTop (mkF m 42 #[vR a1, vI f1, vI t2, vJ q3, .second, vI ((((f1 + (1 : Int32)) + (1 : Int32)) + (1 : Int32)) + (1 : Int32)), vI d4] [(.long (q3 * (10 : Int64)))]))
                                refine Go.step (fun _ k => XS.iload X_258.here hx rfl (hb hby d_prog_1_method_2_code_42) rfl  k) ?_
                                refine Go.step (fun _ k => XS.bipush X_258.here hx rfl (hb hby d_prog_1_method_2_code_44) k) ?_
                                show Go p e below _ (T_258.setTop (mkF m 46 #[vR a1, vI f1, vI t2, vJ q3, .second, vI ((((f1 + (1 : Int32)) + (1 : Int32)) + (1 : Int32)) + (1 : Int32)), vI d4] [(.int (48 : Int32)), (.int d4), (.long (q3 * (10 : Int64)))]))
                                refine Go.step (fun _ k => XS.isub X_258.here hx rfl (hb hby d_prog_1_method_2_code_46) rfl k) ?_
                                show Go p e below _ (T_258.setTop (mkF m 47 #[vR a1, vI f1, vI t2, vJ q3, .second, vI ((((f1 + (1 : Int32)) + (1 : Int32)) + (1 : Int32)) + (1 : Int32)), vI d4] [(.int (d4 - (48 : Int32))), (.long (q3 * (10 : Int64)))]))
                                refine Go.step (fun _ k => XS.i2l X_258.here hx rfl (hb hby d_prog_1_method_2_code_47) rfl k) ?_
                                show Go p e below _ (T_258.setTop (mkF m 48 #[vR a1, vI f1, vI t2, vJ q3, .second, vI ((((f1 + (1 : Int32)) + (1 : Int32)) + (1 : Int32)) + (1 : Int32)), vI d4] [(.long (d4 - (48 : Int32)).toInt64), (.long (q3 * (10 : Int64)))]))
                                refine Go.step (fun _ k => XS.ladd X_258.here hx rfl (hb hby d_prog_1_method_2_code_48) rfl k) ?_
                                show Go p e below _ (T_258.setTop (mkF m 49 #[vR a1, vI f1, vI t2, vJ q3, .second, vI ((((f1 + (1 : Int32)) + (1 : Int32)) + (1 : Int32)) + (1 : Int32)), vI d4] [(.long ((q3 * (10 : Int64)) + (d4 - (48 : Int32)).toInt64))]))
                                refine Go.step (fun _ k => XS.lstoreN X_258.here hx rfl (hb hby d_prog_1_method_2_code_49) rfl (l' := #[vR a1, vI f1, vI t2, vJ ((q3 * (10 : Int64)) + (d4 - (48 : Int32)).toInt64), .second, vI ((((f1 + (1 : Int32)) + (1 : Int32)) + (1 : Int32)) + (1 : Int32)), vI d4]) rfl k) ?_
                                show Go p e below _ (T_258.setTop (mkF m 50 #[vR a1, vI f1, vI t2, vJ ((q3 * (10 : Int64)) + (d4 - (48 : Int32)).toInt64), .second, vI ((((f1 + (1 : Int32)) + (1 : Int32)) + (1 : Int32)) + (1 : Int32)), vI d4] []))
                                obtain ⟨q4, h_q4⟩ : ∃ z, z = ((q3 * (10 : Int64)) + (d4 - (48 : Int32)).toInt64) := ⟨_, rfl⟩
                                rw [← h_q4]
                                show Go p e below _ (T_258.setTop (mkF m 50 #[vR a1, vI f1, vI t2, vJ q4, .second, vI ((((f1 + (1 : Int32)) + (1 : Int32)) + (1 : Int32)) + (1 : Int32)), vI d4] []))
                                refine Go.step (fun _ k => XS.iinc X_258.here hx rfl (hb hby d_prog_1_method_2_code_50) rfl (l' := #[vR a1, vI f1, vI t2, vJ q4, .second, vI (((((f1 + (1 : Int32)) + (1 : Int32)) + (1 : Int32)) + (1 : Int32)) + (1 : Int32)), vI d4]) rfl k) ?_
                                show Go p e below _ (T_258.setTop (mkF m 53 #[vR a1, vI f1, vI t2, vJ q4, .second, vI (((((f1 + (1 : Int32)) + (1 : Int32)) + (1 : Int32)) + (1 : Int32)) + (1 : Int32)), vI d4] []))
                                refine Go.step (fun _ k => XS.goto X_258.here hx rfl (pc0 := 53) (pc' := 5) rfl (hb hby d_prog_1_method_2_code_53) (by decide) (by decide) k) ?_
                                show Go p e below _ (T_258.setTop (mkF m 5 #[vR a1, vI f1, vI t2, vJ q4, .second, vI (((((f1 + (1 : Int32)) + (1 : Int32)) + (1 : Int32)) + (1 : Int32)) + (1 : Int32)), vI d4] []))
                                refine Go.step (fun _ k => XS.iload X_258.here hx rfl (hb hby d_prog_1_method_2_code_5) rfl  k) ?_
                                refine Go.step (fun _ k => XS.iloadN X_258.here hx rfl (hb hby d_prog_1_method_2_code_7) rfl  k) ?_
                                show Go p e below _ (T_258.setTop (mkF m 8 #[vR a1, vI f1, vI t2, vJ q4, .second, vI (((((f1 + (1 : Int32)) + (1 : Int32)) + (1 : Int32)) + (1 : Int32)) + (1 : Int32)), vI d4] [(.int t2), (.int (((((f1 + (1 : Int32)) + (1 : Int32)) + (1 : Int32)) + (1 : Int32)) + (1 : Int32)))]))
                                by_cases x5 : (((((f1 + (1 : Int32)) + (1 : Int32)) + (1 : Int32)) + (1 : Int32)) + (1 : Int32)) < t2
                                · skip
                                  refine Go.step (fun _ k => XS.icmpNo X_258.here hx rfl (hb hby d_prog_1_method_2_code_8) rfl (tlt x5).2.1 k) ?_
                                  show Go p e below _ (T_258.setTop (mkF m 11 #[vR a1, vI f1, vI t2, vJ q4, .second, vI (((((f1 + (1 : Int32)) + (1 : Int32)) + (1 : Int32)) + (1 : Int32)) + (1 : Int32)), vI d4] []))
                                  refine Go.step (fun _ k => XS.aloadN X_258.here hx rfl (hb hby d_prog_1_method_2_code_11) rfl rfl k) ?_
                                  refine Go.step (fun _ k => XS.iload X_258.here hx rfl (hb hby d_prog_1_method_2_code_12) rfl  k) ?_
                                  show Go p e below _ (T_258.setTop (mkF m 14 #[vR a1, vI f1, vI t2, vJ q4, .second, vI (((((f1 + (1 : Int32)) + (1 : Int32)) + (1 : Int32)) + (1 : Int32)) + (1 : Int32)), vI d4] [(.int (((((f1 + (1 : Int32)) + (1 : Int32)) + (1 : Int32)) + (1 : Int32)) + (1 : Int32))), (.ref a1)]))
                                  have k5' : (((((f1 + (1 : Int32)) + (1 : Int32)) + (1 : Int32)) + (1 : Int32)) + (1 : Int32)).toInt = f1.toInt + 5 := k4
                                  have j5 : 0 ≤ (((((f1 + (1 : Int32)) + (1 : Int32)) + (1 : Int32)) + (1 : Int32)) + (1 : Int32)).toInt ∧ (((((f1 + (1 : Int32)) + (1 : Int32)) + (1 : Int32)) + (1 : Int32)) + (1 : Int32)).toInt < 6 := by have := hft; have q := x5; rw [Int32.lt_iff_toInt_lt] at q; omega
                                  have k5 : ((((((f1 + (1 : Int32)) + (1 : Int32)) + (1 : Int32)) + (1 : Int32)) + (1 : Int32)) + (1 : Int32)).toInt = f1.toInt + 6 := by have := plus1 k5' (by have := hft; omega); omega
                                  obtain ⟨v_259, T_259, L_259, X_259, hQ_259, st_259⟩ := goV X_258 hx hZ (y := Y_15) (z := Y_15) hown (wd_59 hw) (wd_60 hw) (notFace_of_selects (args := #[]) (mvT hZ (wd_62 hw))) (wd_62 hw) (wd_61 hw) (by decide) (backOf (W := 0) (rm_caU l Z a0 hw zc vfm (a1) (t1) (kt) c0 c1 c2 c3 c4 c5 ((((((f1 + (1 : Int32)) + (1 : Int32)) + (1 : Int32)) + (1 : Int32)) + (1 : Int32))) h0 n0 (Nat.le_trans Z0 KP0.1) E_a1 F_v F_c A_t h_c0 h_c1 h_c2 h_c3 h_c4 h_c5 j5 hSt hO) hZ (wd_63 hw) (wd_9 hw) (by decide) (by decide)) e_258 E_a1 (g := (mkF m 14 #[vR a1, vI f1, vI t2, vJ q4, .second, vI (((((f1 + (1 : Int32)) + (1 : Int32)) + (1 : Int32)) + (1 : Int32)) + (1 : Int32)), vI d4] [(.int (((((f1 + (1 : Int32)) + (1 : Int32)) + (1 : Int32)) + (1 : Int32)) + (1 : Int32))), (.ref a1)])) rfl (by rw [hml]; rfl) (argsL := [(.int (((((f1 + (1 : Int32)) + (1 : Int32)) + (1 : Int32)) + (1 : Int32)) + (1 : Int32)))]) (rest := []) rfl (lenOf pd_13 rfl) rfl (by show 2 * 0 + _ ≤ _; exact Nat.le_of_eq rfl) (hb hby d_prog_1_method_2_code_14) (by decide) (by decide)
                                  obtain ⟨rfl, Nq_259, e_259⟩ := hQ_259
                                  have N_259 := Fr.app N_258 Nq_259
                                  refine Go.step st_259 ?_
                                  show Go p e below _ (T_259.setTop (mkF m 17 #[vR a1, vI f1, vI t2, vJ q4, .second, vI (((((f1 + (1 : Int32)) + (1 : Int32)) + (1 : Int32)) + (1 : Int32)) + (1 : Int32)), vI d4] [(.int (sel c0 c1 c2 c3 c4 c5 (((((f1 + (1 : Int32)) + (1 : Int32)) + (1 : Int32)) + (1 : Int32)) + (1 : Int32))))]))
                                  refine Go.step (fun _ k => XS.istore X_259.here hx rfl (hb hby d_prog_1_method_2_code_17) rfl (l' := #[vR a1, vI f1, vI t2, vJ q4, .second, vI (((((f1 + (1 : Int32)) + (1 : Int32)) + (1 : Int32)) + (1 : Int32)) + (1 : Int32)), vI (sel c0 c1 c2 c3 c4 c5 (((((f1 + (1 : Int32)) + (1 : Int32)) + (1 : Int32)) + (1 : Int32)) + (1 : Int32)))]) rfl k) ?_
                                  show Go p e below _ (T_259.setTop (mkF m 19 #[vR a1, vI f1, vI t2, vJ q4, .second, vI (((((f1 + (1 : Int32)) + (1 : Int32)) + (1 : Int32)) + (1 : Int32)) + (1 : Int32)), vI (sel c0 c1 c2 c3 c4 c5 (((((f1 + (1 : Int32)) + (1 : Int32)) + (1 : Int32)) + (1 : Int32)) + (1 : Int32)))] []))
                                  obtain ⟨d5, h_d5⟩ : ∃ z, z = (sel c0 c1 c2 c3 c4 c5 (((((f1 + (1 : Int32)) + (1 : Int32)) + (1 : Int32)) + (1 : Int32)) + (1 : Int32))) := ⟨_, rfl⟩
                                  rw [← h_d5]
                                  show Go p e below _ (T_259.setTop (mkF m 19 #[vR a1, vI f1, vI t2, vJ q4, .second, vI (((((f1 + (1 : Int32)) + (1 : Int32)) + (1 : Int32)) + (1 : Int32)) + (1 : Int32)), vI d5] []))
                                  refine Go.step (fun _ k => XS.iload X_259.here hx rfl (hb hby d_prog_1_method_2_code_19) rfl  k) ?_
                                  refine Go.step (fun _ k => XS.bipush X_259.here hx rfl (hb hby d_prog_1_method_2_code_21) k) ?_
                                  show Go p e below _ (T_259.setTop (mkF m 23 #[vR a1, vI f1, vI t2, vJ q4, .second, vI (((((f1 + (1 : Int32)) + (1 : Int32)) + (1 : Int32)) + (1 : Int32)) + (1 : Int32)), vI d5] [(.int (48 : Int32)), (.int d5)]))
                                  by_cases y5 : d5 < (48 : Int32)
                                  · skip
                                    refine Go.step (fun _ k => XS.icmpYes X_259.here hx rfl (pc0 := 23) (pc' := 33) rfl (hb hby d_prog_1_method_2_code_23) rfl (tlt y5).1 (by decide) (by decide) k) ?_
                                    show Go p e below _ (T_259.setTop (mkF m 33 #[vR a1, vI f1, vI t2, vJ q4, .second, vI (((((f1 + (1 : Int32)) + (1 : Int32)) + (1 : Int32)) + (1 : Int32)) + (1 : Int32)), vI d5] []))
                                    refine Go.step (fun _ k => X_259.ldc2Long hx hown (mvT hZ (wd_86 hw)) (g := (mkF m 33 #[vR a1, vI f1, vI t2, vJ q4, .second, vI (((((f1 + (1 : Int32)) + (1 : Int32)) + (1 : Int32)) + (1 : Int32)) + (1 : Int32)), vI d5] [])) rfl (hb hby d_prog_1_method_2_code_33) _ k) ?_
                                    show Go p e below _ (T_259.setTop (mkF m 36 #[vR a1, vI f1, vI t2, vJ q4, .second, vI (((((f1 + (1 : Int32)) + (1 : Int32)) + (1 : Int32)) + (1 : Int32)) + (1 : Int32)), vI d5] [(.long (-1 : Int64))]))
                                    exact Go.retV X_259 hx hlk hret rfl (Or.inr (Or.inl ⟨rfl, rfl, _, rfl⟩)) (hb hby d_prog_1_method_2_code_36) (by decide) (by decide) (by rw [e_259]; exact ⟨(by subst h_q4; subst h_q3; subst h_q2; subst h_q1; subst h_q0; subst h_d5; subst h_d4; subst h_d3; subst h_d2; subst h_d1; subst h_d0; simp only [rdF, x0, y0, z0, x1, y1, z1, x2, y2, z2, x3, y3, z3, x4, y4, z4, x5, y5, if_true, if_false, Int64.zero_mul]), N_259, rfl⟩)
                                  · skip
                                    refine Go.step (fun _ k => XS.icmpNo X_259.here hx rfl (hb hby d_prog_1_method_2_code_23) rfl (flt y5).1 k) ?_
                                    show Go p e below _ (T_259.setTop (mkF m 26 #[vR a1, vI f1, vI t2, vJ q4, .second, vI (((((f1 + (1 : Int32)) + (1 : Int32)) + (1 : Int32)) + (1 : Int32)) + (1 : Int32)), vI d5] []))
                                    refine Go.step (fun _ k => XS.iload X_259.here hx rfl (hb hby d_prog_1_method_2_code_26) rfl  k) ?_
                                    refine Go.step (fun _ k => XS.bipush X_259.here hx rfl (hb hby d_prog_1_method_2_code_28) k) ?_
                                    show Go p e below _ (T_259.setTop (mkF m 30 #[vR a1, vI f1, vI t2, vJ q4, .second, vI (((((f1 + (1 : Int32)) + (1 : Int32)) + (1 : Int32)) + (1 : Int32)) + (1 : Int32)), vI d5] [(.int (57 : Int32)), (.int d5)]))
                                    by_cases z5 : (57 : Int32) < d5
                                    · skip
                                      refine Go.step (fun _ k => XS.icmpNo X_259.here hx rfl (hb hby d_prog_1_method_2_code_30) rfl (tlt z5).2.2.2 k) ?_
                                      show Go p e below _ (T_259.setTop (mkF m 33 #[vR a1, vI f1, vI t2, vJ q4, .second, vI (((((f1 + (1 : Int32)) + (1 : Int32)) + (1 : Int32)) + (1 : Int32)) + (1 : Int32)), vI d5] []))
                                      refine Go.step (fun _ k => X_259.ldc2Long hx hown (mvT hZ (wd_86 hw)) (g := (mkF m 33 #[vR a1, vI f1, vI t2, vJ q4, .second, vI (((((f1 + (1 : Int32)) + (1 : Int32)) + (1 : Int32)) + (1 : Int32)) + (1 : Int32)), vI d5] [])) rfl (hb hby d_prog_1_method_2_code_33) _ k) ?_
                                      show Go p e below _ (T_259.setTop (mkF m 36 #[vR a1, vI f1, vI t2, vJ q4, .second, vI (((((f1 + (1 : Int32)) + (1 : Int32)) + (1 : Int32)) + (1 : Int32)) + (1 : Int32)), vI d5] [(.long (-1 : Int64))]))
                                      exact Go.retV X_259 hx hlk hret rfl (Or.inr (Or.inl ⟨rfl, rfl, _, rfl⟩)) (hb hby d_prog_1_method_2_code_36) (by decide) (by decide) (by rw [e_259]; exact ⟨(by subst h_q4; subst h_q3; subst h_q2; subst h_q1; subst h_q0; subst h_d5; subst h_d4; subst h_d3; subst h_d2; subst h_d1; subst h_d0; simp only [rdF, x0, y0, z0, x1, y1, z1, x2, y2, z2, x3, y3, z3, x4, y4, z4, x5, y5, z5, if_true, if_false, Int64.zero_mul]), N_259, rfl⟩)
                                    · skip
                                      refine Go.step (fun _ k => XS.icmpYes X_259.here hx rfl (pc0 := 30) (pc' := 37) rfl (hb hby d_prog_1_method_2_code_30) rfl (flt z5).2.2.2 (by decide) (by decide) k) ?_
                                      show Go p e below _ (T_259.setTop (mkF m 37 #[vR a1, vI f1, vI t2, vJ q4, .second, vI (((((f1 + (1 : Int32)) + (1 : Int32)) + (1 : Int32)) + (1 : Int32)) + (1 : Int32)), vI d5] []))
                                      refine Go.step (fun _ k => XS.lloadN X_259.here hx rfl (hb hby d_prog_1_method_2_code_37) rfl  k) ?_
                                      show Go p e below _ (T_259.setTop (mkF m 38 #[vR a1, vI f1, vI t2, vJ q4, .second, vI (((((f1 + (1 : Int32)) + (1 : Int32)) + (1 : Int32)) + (1 : Int32)) + (1 : Int32)), vI d5] [(.long q4)]))
                                      refine Go.step (fun _ k => X_259.ldc2Long hx hown (mvT hZ (wd_98 hw)) (g := (mkF m 38 #[vR a1, vI f1, vI t2, vJ q4, .second, vI (((((f1 + (1 : Int32)) + (1 : Int32)) + (1 : Int32)) + (1 : Int32)) + (1 : Int32)), vI d5] [(.long q4)])) rfl (hb hby d_prog_1_method_2_code_38) _ k) ?_
                                      show Go p e below _ (T_259.setTop (mkF m 41 #[vR a1, vI f1, vI t2, vJ q4, .second, vI (((((f1 + (1 : Int32)) + (1 : Int32)) + (1 : Int32)) + (1 : Int32)) + (1 : Int32)), vI d5] [(.long (10 : Int64)), (.long q4)]))
                                      refine Go.step (fun _ k => XS.lmul X_259.here hx rfl (hb hby d_prog_1_method_2_code_41) rfl k) ?_
                                      show Go p e below _ (T_259.setTop (mkF m 42 #[vR a1, vI f1, vI t2, vJ q4, .second, vI (((((f1 + (1 : Int32)) + (1 : Int32)) + (1 : Int32)) + (1 : Int32)) + (1 : Int32)), vI d5] [(.long (q4 * (10 : Int64)))]))
                                      refine Go.step (fun _ k => XS.iload X_259.here hx rfl (hb hby d_prog_1_method_2_code_42) rfl  k) ?_
                                      refine Go.step (fun _ k => XS.bipush X_259.here hx rfl (hb hby d_prog_1_method_2_code_44) k) ?_
                                      show Go p e below _ (T_259.setTop (mkF m 46 #[vR a1, vI f1, vI t2, vJ q4, .second, vI (((((f1 + (1 : Int32)) + (1 : Int32)) + (1 : Int32)) + (1 : Int32)) + (1 : Int32)), vI d5] [(.int (48 : Int32)), (.int d5), (.long (q4 * (10 : Int64)))]))
                                      refine Go.step (fun _ k => XS.isub X_259.here hx rfl (hb hby d_prog_1_method_2_code_46) rfl k) ?_
                                      show Go p e below _ (T_259.setTop (mkF m 47 #[vR a1, vI f1, vI t2, vJ q4, .second, vI (((((f1 + (1 : Int32)) + (1 : Int32)) + (1 : Int32)) + (1 : Int32)) + (1 : Int32)), vI d5] [(.int (d5 - (48 : Int32))), (.long (q4 * (10 : Int64)))]))
                                      refine Go.step (fun _ k => XS.i2l X_259.here hx rfl (hb hby d_prog_1_method_2_code_47) rfl k) ?_
                                      show Go p e below _ (T_259.setTop (mkF m 48 #[vR a1, vI f1, vI t2, vJ q4, .second, vI (((((f1 + (1 : Int32)) + (1 : Int32)) + (1 : Int32)) + (1 : Int32)) + (1 : Int32)), vI d5] [(.long (d5 - (48 : Int32)).toInt64), (.long (q4 * (10 : Int64)))]))
                                      refine Go.step (fun _ k => XS.ladd X_259.here hx rfl (hb hby d_prog_1_method_2_code_48) rfl k) ?_
                                      show Go p e below _ (T_259.setTop (mkF m 49 #[vR a1, vI f1, vI t2, vJ q4, .second, vI (((((f1 + (1 : Int32)) + (1 : Int32)) + (1 : Int32)) + (1 : Int32)) + (1 : Int32)), vI d5] [(.long ((q4 * (10 : Int64)) + (d5 - (48 : Int32)).toInt64))]))
                                      refine Go.step (fun _ k => XS.lstoreN X_259.here hx rfl (hb hby d_prog_1_method_2_code_49) rfl (l' := #[vR a1, vI f1, vI t2, vJ ((q4 * (10 : Int64)) + (d5 - (48 : Int32)).toInt64), .second, vI (((((f1 + (1 : Int32)) + (1 : Int32)) + (1 : Int32)) + (1 : Int32)) + (1 : Int32)), vI d5]) rfl k) ?_
                                      show Go p e below _ (T_259.setTop (mkF m 50 #[vR a1, vI f1, vI t2, vJ ((q4 * (10 : Int64)) + (d5 - (48 : Int32)).toInt64), .second, vI (((((f1 + (1 : Int32)) + (1 : Int32)) + (1 : Int32)) + (1 : Int32)) + (1 : Int32)), vI d5] []))
                                      obtain ⟨q5, h_q5⟩ : ∃ z, z = ((q4 * (10 : Int64)) + (d5 - (48 : Int32)).toInt64) := ⟨_, rfl⟩
                                      rw [← h_q5]
                                      show Go p e below _ (T_259.setTop (mkF m 50 #[vR a1, vI f1, vI t2, vJ q5, .second, vI (((((f1 + (1 : Int32)) + (1 : Int32)) + (1 : Int32)) + (1 : Int32)) + (1 : Int32)), vI d5] []))
                                      refine Go.step (fun _ k => XS.iinc X_259.here hx rfl (hb hby d_prog_1_method_2_code_50) rfl (l' := #[vR a1, vI f1, vI t2, vJ q5, .second, vI ((((((f1 + (1 : Int32)) + (1 : Int32)) + (1 : Int32)) + (1 : Int32)) + (1 : Int32)) + (1 : Int32)), vI d5]) rfl k) ?_
                                      show Go p e below _ (T_259.setTop (mkF m 53 #[vR a1, vI f1, vI t2, vJ q5, .second, vI ((((((f1 + (1 : Int32)) + (1 : Int32)) + (1 : Int32)) + (1 : Int32)) + (1 : Int32)) + (1 : Int32)), vI d5] []))
                                      refine Go.step (fun _ k => XS.goto X_259.here hx rfl (pc0 := 53) (pc' := 5) rfl (hb hby d_prog_1_method_2_code_53) (by decide) (by decide) k) ?_
                                      show Go p e below _ (T_259.setTop (mkF m 5 #[vR a1, vI f1, vI t2, vJ q5, .second, vI ((((((f1 + (1 : Int32)) + (1 : Int32)) + (1 : Int32)) + (1 : Int32)) + (1 : Int32)) + (1 : Int32)), vI d5] []))
                                      refine Go.step (fun _ k => XS.iload X_259.here hx rfl (hb hby d_prog_1_method_2_code_5) rfl  k) ?_
                                      refine Go.step (fun _ k => XS.iloadN X_259.here hx rfl (hb hby d_prog_1_method_2_code_7) rfl  k) ?_
                                      show Go p e below _ (T_259.setTop (mkF m 8 #[vR a1, vI f1, vI t2, vJ q5, .second, vI ((((((f1 + (1 : Int32)) + (1 : Int32)) + (1 : Int32)) + (1 : Int32)) + (1 : Int32)) + (1 : Int32)), vI d5] [(.int t2), (.int ((((((f1 + (1 : Int32)) + (1 : Int32)) + (1 : Int32)) + (1 : Int32)) + (1 : Int32)) + (1 : Int32)))]))
                                      refine Go.step (fun _ k => XS.icmpYes X_259.here hx rfl (pc0 := 8) (pc' := 56) rfl (hb hby d_prog_1_method_2_code_8) rfl (flt ((fun q => by rw [Int32.lt_iff_toInt_lt] at q; have := k5; have := hft; omega) : ¬ (((((((f1 + (1 : Int32)) + (1 : Int32)) + (1 : Int32)) + (1 : Int32)) + (1 : Int32)) + (1 : Int32)) < t2))).2.1 (by decide) (by decide) k) ?_
                                      show Go p e below _ (T_259.setTop (mkF m 56 #[vR a1, vI f1, vI t2, vJ q5, .second, vI ((((((f1 + (1 : Int32)) + (1 : Int32)) + (1 : Int32)) + (1 : Int32)) + (1 : Int32)) + (1 : Int32)), vI d5] []))
                                      refine Go.step (fun _ k => XS.lloadN X_259.here hx rfl (hb hby d_prog_1_method_2_code_56) rfl  k) ?_
                                      show Go p e below _ (T_259.setTop (mkF m 57 #[vR a1, vI f1, vI t2, vJ q5, .second, vI ((((((f1 + (1 : Int32)) + (1 : Int32)) + (1 : Int32)) + (1 : Int32)) + (1 : Int32)) + (1 : Int32)), vI d5] [(.long q5)]))
                                      exact Go.retV X_259 hx hlk hret rfl (Or.inr (Or.inl ⟨rfl, rfl, _, rfl⟩)) (hb hby d_prog_1_method_2_code_57) (by decide) (by decide) (by rw [e_259]; exact ⟨(by subst h_q5; subst h_q4; subst h_q3; subst h_q2; subst h_q1; subst h_q0; subst h_d5; subst h_d4; subst h_d3; subst h_d2; subst h_d1; subst h_d0; simp only [rdF, x0, y0, z0, x1, y1, z1, x2, y2, z2, x3, y3, z3, x4, y4, z4, x5, y5, z5, if_true, if_false, Int64.zero_mul]), N_259, rfl⟩)
                                · skip
                                  refine Go.step (fun _ k => XS.icmpYes X_258.here hx rfl (pc0 := 8) (pc' := 56) rfl (hb hby d_prog_1_method_2_code_8) rfl (flt x5).2.1 (by decide) (by decide) k) ?_
                                  show Go p e below _ (T_258.setTop (mkF m 56 #[vR a1, vI f1, vI t2, vJ q4, .second, vI (((((f1 + (1 : Int32)) + (1 : Int32)) + (1 : Int32)) + (1 : Int32)) + (1 : Int32)), vI d4] []))
                                  refine Go.step (fun _ k => XS.lloadN X_258.here hx rfl (hb hby d_prog_1_method_2_code_56) rfl  k) ?_
                                  show Go p e below _ (T_258.setTop (mkF m 57 #[vR a1, vI f1, vI t2, vJ q4, .second, vI (((((f1 + (1 : Int32)) + (1 : Int32)) + (1 : Int32)) + (1 : Int32)) + (1 : Int32)), vI d4] [(.long q4)]))
                                  exact Go.retV X_258 hx hlk hret rfl (Or.inr (Or.inl ⟨rfl, rfl, _, rfl⟩)) (hb hby d_prog_1_method_2_code_57) (by decide) (by decide) (by rw [e_258]; exact ⟨(by subst h_q4; subst h_q3; subst h_q2; subst h_q1; subst h_q0; subst h_d4; subst h_d3; subst h_d2; subst h_d1; subst h_d0; simp only [rdF, x0, y0, z0, x1, y1, z1, x2, y2, z2, x3, y3, z3, x4, y4, z4, x5, if_true, if_false, Int64.zero_mul]), N_258, rfl⟩)
                          · skip
                            refine Go.step (fun _ k => XS.icmpYes X_257.here hx rfl (pc0 := 8) (pc' := 56) rfl (hb hby d_prog_1_method_2_code_8) rfl (flt x4).2.1 (by decide) (by decide) k) ?_
                            show Go p e below _ (T_257.setTop (mkF m 56 #[vR a1, vI f1, vI t2, vJ q3, .second, vI ((((f1 + (1 : Int32)) + (1 : Int32)) + (1 : Int32)) + (1 : Int32)), vI d3] []))
                            refine Go.step (fun _ k => XS.lloadN X_257.here hx rfl (hb hby d_prog_1_method_2_code_56) rfl  k) ?_
                            show Go p e below _ (T_257.setTop (mkF m 57 #[vR a1, vI f1, vI t2, vJ q3, .second, vI ((((f1 + (1 : Int32)) + (1 : Int32)) + (1 : Int32)) + (1 : Int32)), vI d3] [(.long q3)]))
                            exact Go.retV X_257 hx hlk hret rfl (Or.inr (Or.inl ⟨rfl, rfl, _, rfl⟩)) (hb hby d_prog_1_method_2_code_57) (by decide) (by decide) (by rw [e_257]; exact ⟨(by subst h_q3; subst h_q2; subst h_q1; subst h_q0; subst h_d3; subst h_d2; subst h_d1; subst h_d0; simp only [rdF, x0, y0, z0, x1, y1, z1, x2, y2, z2, x3, y3, z3, x4, if_true, if_false, Int64.zero_mul]), N_257, rfl⟩)
                    · skip
                      refine Go.step (fun _ k => XS.icmpYes X_256.here hx rfl (pc0 := 8) (pc' := 56) rfl (hb hby d_prog_1_method_2_code_8) rfl (flt x3).2.1 (by decide) (by decide) k) ?_
                      show Go p e below _ (T_256.setTop (mkF m 56 #[vR a1, vI f1, vI t2, vJ q2, .second, vI (((f1 + (1 : Int32)) + (1 : Int32)) + (1 : Int32)), vI d2] []))
                      refine Go.step (fun _ k => XS.lloadN X_256.here hx rfl (hb hby d_prog_1_method_2_code_56) rfl  k) ?_
                      show Go p e below _ (T_256.setTop (mkF m 57 #[vR a1, vI f1, vI t2, vJ q2, .second, vI (((f1 + (1 : Int32)) + (1 : Int32)) + (1 : Int32)), vI d2] [(.long q2)]))
                      exact Go.retV X_256 hx hlk hret rfl (Or.inr (Or.inl ⟨rfl, rfl, _, rfl⟩)) (hb hby d_prog_1_method_2_code_57) (by decide) (by decide) (by rw [e_256]; exact ⟨(by subst h_q2; subst h_q1; subst h_q0; subst h_d2; subst h_d1; subst h_d0; simp only [rdF, x0, y0, z0, x1, y1, z1, x2, y2, z2, x3, if_true, if_false, Int64.zero_mul]), N_256, rfl⟩)
              · skip
                refine Go.step (fun _ k => XS.icmpYes X_255.here hx rfl (pc0 := 8) (pc' := 56) rfl (hb hby d_prog_1_method_2_code_8) rfl (flt x2).2.1 (by decide) (by decide) k) ?_
                show Go p e below _ (T_255.setTop (mkF m 56 #[vR a1, vI f1, vI t2, vJ q1, .second, vI ((f1 + (1 : Int32)) + (1 : Int32)), vI d1] []))
                refine Go.step (fun _ k => XS.lloadN X_255.here hx rfl (hb hby d_prog_1_method_2_code_56) rfl  k) ?_
                show Go p e below _ (T_255.setTop (mkF m 57 #[vR a1, vI f1, vI t2, vJ q1, .second, vI ((f1 + (1 : Int32)) + (1 : Int32)), vI d1] [(.long q1)]))
                exact Go.retV X_255 hx hlk hret rfl (Or.inr (Or.inl ⟨rfl, rfl, _, rfl⟩)) (hb hby d_prog_1_method_2_code_57) (by decide) (by decide) (by rw [e_255]; exact ⟨(by subst h_q1; subst h_q0; subst h_d1; subst h_d0; simp only [rdF, x0, y0, z0, x1, y1, z1, x2, if_true, if_false, Int64.zero_mul]), N_255, rfl⟩)
        · skip
          refine Go.step (fun _ k => XS.icmpYes X_254.here hx rfl (pc0 := 8) (pc' := 56) rfl (hb hby d_prog_1_method_2_code_8) rfl (flt x1).2.1 (by decide) (by decide) k) ?_
          show Go p e below _ (T_254.setTop (mkF m 56 #[vR a1, vI f1, vI t2, vJ q0, .second, vI (f1 + (1 : Int32)), vI d0] []))
          refine Go.step (fun _ k => XS.lloadN X_254.here hx rfl (hb hby d_prog_1_method_2_code_56) rfl  k) ?_
          show Go p e below _ (T_254.setTop (mkF m 57 #[vR a1, vI f1, vI t2, vJ q0, .second, vI (f1 + (1 : Int32)), vI d0] [(.long q0)]))
          exact Go.retV X_254 hx hlk hret rfl (Or.inr (Or.inl ⟨rfl, rfl, _, rfl⟩)) (hb hby d_prog_1_method_2_code_57) (by decide) (by decide) (by rw [e_254]; exact ⟨(by subst h_q0; subst h_d0; simp only [rdF, x0, y0, z0, x1, if_true, if_false, Int64.zero_mul]), N_254, rfl⟩)
  · skip
    refine Go.step (fun _ k => XS.icmpYes X0.here hx rfl (pc0 := 8) (pc' := 56) rfl (hb hby d_prog_1_method_2_code_8) rfl (flt x0).2.1 (by decide) (by decide) k) ?_
    show Go p e below _ (s₁.setTop (mkF m 56 #[vR a1, vI f1, vI t2, vJ 0, .second, vI f1, vU] []))
    refine Go.step (fun _ k => XS.lloadN X0.here hx rfl (hb hby d_prog_1_method_2_code_56) rfl  k) ?_
    show Go p e below _ (s₁.setTop (mkF m 57 #[vR a1, vI f1, vI t2, vJ 0, .second, vI f1, vU] [(.long (0 : Int64))]))
    exact Go.retV X0 hx hlk hret rfl (Or.inr (Or.inl ⟨rfl, rfl, _, rfl⟩)) (hb hby d_prog_1_method_2_code_57) (by decide) (by decide) (by rw [e0]; exact ⟨(by simp only [rdF, x0, if_true, if_false, Int64.zero_mul]), N0, rfl⟩)
--@E
--@C dv
def Q_dv (Z : State) (zc : Int32) (vfm : Value) (c1 : Int32) (h0 : Heap) (n0 : Nat) (v : Option Value) (h : Heap) (L : List Loc) : Prop := v = some (.int (dv c1)) ∧ Fr n0 L ∧ h = h0
set_option maxRecDepth 65536 in
set_option maxHeartbeats 40000000 in
theorem rm_dv (l : Launch) (Z : State) (a0 : Array Value) (hw : ∀ d ∈ tables_1, d.before a0 Z = true) (zc : Int32) (vfm : Value) (c1 : Int32) (h0 : Heap) (n0 : Nat) (Z0 : n0 ≤ h0.size) (hSt : St Z zc vfm) (hO : Old Z n0 h0) :
    CN l Z ({ cls := "com/example/sigyn/sigyn/DigitsReadPinLaw", name := "digitValue", desc := "(C)I" } : Jvm.MethodName) [(Jvm.Cond.code ({ cls := "com/example/sigyn/sigyn/DigitsReadPinLaw", name := "digitValue", desc := "(C)I" } : Jvm.MethodName) method_3_code (1 : Nat) (Option.some Jvm.ClassFile.FieldType.int))] ({ frames := 0, cells := 0, slots := 0, locals := 0 } : Room) #[(.int c1)] h0 (Q_dv Z zc vfm c1 h0 n0) := by
  refine CN.of (L0 := #[vI c1]) (plainFor_of_name pn_0) (fun m => by first | (simp [entryFrame, mkF, argsToLocals, Value.category]; done) | rfl) ?_
  intro p e s m below meth c s₁ hx hby hml hret hlk hZ hown hnm X0 e0
  have N0 := Fr.nil n0
  have KP0 := Keep.refl h0 []
  have hSt_ := hSt
  obtain ⟨S_cs, n_cs, S_fm, r_fm, S_ad, S_hi, S_lo⟩ := hSt_
  show Go p e below _ (s₁.setTop (mkF m 0 #[vI c1] []))
  refine Go.step (fun _ k => XS.iloadN X0.here hx rfl (hb hby d_method_3_code_0) rfl  k) ?_
  refine Go.step (fun _ k => XS.bipush X0.here hx rfl (hb hby d_method_3_code_1) k) ?_
  show Go p e below _ (s₁.setTop (mkF m 3 #[vI c1] [(.int (48 : Int32)), (.int c1)]))
  by_cases u0 : c1 < (48 : Int32)
  · skip
    refine Go.step (fun _ k => XS.icmpYes X0.here hx rfl (pc0 := 3) (pc' := 17) rfl (hb hby d_method_3_code_3) rfl (tlt u0).1 (by decide) (by decide) k) ?_
    show Go p e below _ (s₁.setTop (mkF m 17 #[vI c1] []))
    refine Go.step (fun _ k => XS.iconst X0.here hx rfl (hb hby d_method_3_code_17) k) ?_
    show Go p e below _ (s₁.setTop (mkF m 18 #[vI c1] [(.int (-1 : Int32))]))
    exact Go.retV X0 hx hlk hret rfl (Or.inl ⟨rfl, Or.inl rfl, _, rfl⟩) (hb hby d_method_3_code_18) (by decide) (by decide) (by rw [e0]; exact ⟨(by rw [dv, if_pos u0]), N0, rfl⟩)
  · skip
    refine Go.step (fun _ k => XS.icmpNo X0.here hx rfl (hb hby d_method_3_code_3) rfl (flt u0).1 k) ?_
    show Go p e below _ (s₁.setTop (mkF m 6 #[vI c1] []))
    refine Go.step (fun _ k => XS.iloadN X0.here hx rfl (hb hby d_method_3_code_6) rfl  k) ?_
    refine Go.step (fun _ k => XS.bipush X0.here hx rfl (hb hby d_method_3_code_7) k) ?_
    show Go p e below _ (s₁.setTop (mkF m 9 #[vI c1] [(.int (57 : Int32)), (.int c1)]))
    by_cases u1 : (57 : Int32) < c1
    · skip
      refine Go.step (fun _ k => XS.icmpYes X0.here hx rfl (pc0 := 9) (pc' := 17) rfl (hb hby d_method_3_code_9) rfl (tlt u1).2.2.1 (by decide) (by decide) k) ?_
      show Go p e below _ (s₁.setTop (mkF m 17 #[vI c1] []))
      refine Go.step (fun _ k => XS.iconst X0.here hx rfl (hb hby d_method_3_code_17) k) ?_
      show Go p e below _ (s₁.setTop (mkF m 18 #[vI c1] [(.int (-1 : Int32))]))
      exact Go.retV X0 hx hlk hret rfl (Or.inl ⟨rfl, Or.inl rfl, _, rfl⟩) (hb hby d_method_3_code_18) (by decide) (by decide) (by rw [e0]; exact ⟨(by rw [dv, if_neg u0, if_pos u1]), N0, rfl⟩)
    · skip
      refine Go.step (fun _ k => XS.icmpNo X0.here hx rfl (hb hby d_method_3_code_9) rfl (flt u1).2.2.1 k) ?_
      show Go p e below _ (s₁.setTop (mkF m 12 #[vI c1] []))
      refine Go.step (fun _ k => XS.iloadN X0.here hx rfl (hb hby d_method_3_code_12) rfl  k) ?_
      refine Go.step (fun _ k => XS.bipush X0.here hx rfl (hb hby d_method_3_code_13) k) ?_
      show Go p e below _ (s₁.setTop (mkF m 15 #[vI c1] [(.int (48 : Int32)), (.int c1)]))
      refine Go.step (fun _ k => XS.isub X0.here hx rfl (hb hby d_method_3_code_15) rfl k) ?_
      show Go p e below _ (s₁.setTop (mkF m 16 #[vI c1] [(.int (c1 - (48 : Int32)))]))
      exact Go.retV X0 hx hlk hret rfl (Or.inl ⟨rfl, Or.inl rfl, _, rfl⟩) (hb hby d_method_3_code_16) (by decide) (by decide) (by rw [e0]; exact ⟨(by rw [dv, if_neg u0, if_neg u1]), N0, rfl⟩)
--@E
--@C p10
def Q_p10 (Z : State) (zc : Int32) (vfm : Value) (e1 : Int32) (h0 : Heap) (n0 : Nat) (v : Option Value) (h : Heap) (L : List Loc) : Prop := v = some (.long (p10 e1)) ∧ Fr n0 L ∧ h = h0
set_option maxRecDepth 65536 in
set_option maxHeartbeats 40000000 in
theorem rm_p10 (l : Launch) (Z : State) (a0 : Array Value) (hw : ∀ d ∈ tables_1, d.before a0 Z = true) (zc : Int32) (vfm : Value) (e1 : Int32) (h0 : Heap) (n0 : Nat) (Z0 : n0 ≤ h0.size) (hSt : St Z zc vfm) (hO : Old Z n0 h0) :
    CN l Z ({ cls := "com/example/sigyn/sigyn/DigitsReadPinLaw", name := "pow10", desc := "(I)J" } : Jvm.MethodName) [(Jvm.Cond.code ({ cls := "com/example/sigyn/sigyn/DigitsReadPinLaw", name := "pow10", desc := "(I)J" } : Jvm.MethodName) method_4_code (1 : Nat) (Option.some Jvm.ClassFile.FieldType.long))] ({ frames := 0, cells := 0, slots := 0, locals := 0 } : Room) #[(.int e1)] h0 (Q_p10 Z zc vfm e1 h0 n0) := by
  refine CN.of (L0 := #[vI e1]) (plainFor_of_name pn_0) (fun m => by first | (simp [entryFrame, mkF, argsToLocals, Value.category]; done) | rfl) ?_
  intro p e s m below meth c s₁ hx hby hml hret hlk hZ hown hnm X0 e0
  have N0 := Fr.nil n0
  have KP0 := Keep.refl h0 []
  have hSt_ := hSt
  obtain ⟨S_cs, n_cs, S_fm, r_fm, S_ad, S_hi, S_lo⟩ := hSt_
  show Go p e below _ (s₁.setTop (mkF m 0 #[vI e1] []))
  refine Go.step (fun _ k => XS.iloadN X0.here hx rfl (hb hby d_method_4_code_0) rfl  k) ?_
  show Go p e below _ (s₁.setTop (mkF m 1 #[vI e1] [(.int e1)]))
  by_cases u0 : e1 = (0 : Int32)
  · skip
    refine Go.step (fun _ k => XS.ifNo X0.here hx rfl (hb hby d_method_4_code_1) rfl ((if0 _ _).trans (teq u0).2) k) ?_
    show Go p e below _ (s₁.setTop (mkF m 4 #[vI e1] []))
    refine Go.step (fun _ k => XS.lconst X0.here hx rfl (hb hby d_method_4_code_4) k) ?_
    show Go p e below _ (s₁.setTop (mkF m 5 #[vI e1] [(.long (1 : Int64))]))
    exact Go.retV X0 hx hlk hret rfl (Or.inr (Or.inl ⟨rfl, rfl, _, rfl⟩)) (hb hby d_method_4_code_5) (by decide) (by decide) (by rw [e0]; exact ⟨(by rw [p10, if_pos u0]), N0, rfl⟩)
  · skip
    refine Go.step (fun _ k => XS.ifYes X0.here hx rfl (pc0 := 1) (pc' := 6) rfl (hb hby d_method_4_code_1) rfl ((if0 _ _).trans (feq u0).2) (by decide) (by decide) k) ?_
    show Go p e below _ (s₁.setTop (mkF m 6 #[vI e1] []))
    refine Go.step (fun _ k => XS.iloadN X0.here hx rfl (hb hby d_method_4_code_6) rfl  k) ?_
    refine Go.step (fun _ k => XS.iconst X0.here hx rfl (hb hby d_method_4_code_7) k) ?_
    show Go p e below _ (s₁.setTop (mkF m 8 #[vI e1] [(.int (1 : Int32)), (.int e1)]))
    by_cases u1 : e1 = (1 : Int32)
    · skip
      refine Go.step (fun _ k => XS.icmpNo X0.here hx rfl (hb hby d_method_4_code_8) rfl (teq u1).2 k) ?_
      show Go p e below _ (s₁.setTop (mkF m 11 #[vI e1] []))
      refine Go.step (fun _ k => X0.ldc2Long hx hown (mvT hZ (wd_97 hw)) (g := (mkF m 11 #[vI e1] [])) rfl (hb hby d_method_4_code_11) _ k) ?_
      show Go p e below _ (s₁.setTop (mkF m 14 #[vI e1] [(.long (10 : Int64))]))
      exact Go.retV X0 hx hlk hret rfl (Or.inr (Or.inl ⟨rfl, rfl, _, rfl⟩)) (hb hby d_method_4_code_14) (by decide) (by decide) (by rw [e0]; exact ⟨(by rw [p10, if_neg u0, if_pos u1]), N0, rfl⟩)
    · skip
      refine Go.step (fun _ k => XS.icmpYes X0.here hx rfl (pc0 := 8) (pc' := 15) rfl (hb hby d_method_4_code_8) rfl (feq u1).2 (by decide) (by decide) k) ?_
      show Go p e below _ (s₁.setTop (mkF m 15 #[vI e1] []))
      refine Go.step (fun _ k => XS.iloadN X0.here hx rfl (hb hby d_method_4_code_15) rfl  k) ?_
      refine Go.step (fun _ k => XS.iconst X0.here hx rfl (hb hby d_method_4_code_16) k) ?_
      show Go p e below _ (s₁.setTop (mkF m 17 #[vI e1] [(.int (2 : Int32)), (.int e1)]))
      by_cases u2 : e1 = (2 : Int32)
      · skip
        refine Go.step (fun _ k => XS.icmpNo X0.here hx rfl (hb hby d_method_4_code_17) rfl (teq u2).2 k) ?_
        show Go p e below _ (s₁.setTop (mkF m 20 #[vI e1] []))
        refine Go.step (fun _ k => X0.ldc2Long hx hown (mvT hZ (wd_105 hw)) (g := (mkF m 20 #[vI e1] [])) rfl (hb hby d_method_4_code_20) _ k) ?_
        show Go p e below _ (s₁.setTop (mkF m 23 #[vI e1] [(.long (100 : Int64))]))
        exact Go.retV X0 hx hlk hret rfl (Or.inr (Or.inl ⟨rfl, rfl, _, rfl⟩)) (hb hby d_method_4_code_23) (by decide) (by decide) (by rw [e0]; exact ⟨(by rw [p10, if_neg u0, if_neg u1, if_pos u2]), N0, rfl⟩)
      · skip
        refine Go.step (fun _ k => XS.icmpYes X0.here hx rfl (pc0 := 17) (pc' := 24) rfl (hb hby d_method_4_code_17) rfl (feq u2).2 (by decide) (by decide) k) ?_
        show Go p e below _ (s₁.setTop (mkF m 24 #[vI e1] []))
        refine Go.step (fun _ k => XS.iloadN X0.here hx rfl (hb hby d_method_4_code_24) rfl  k) ?_
        refine Go.step (fun _ k => XS.iconst X0.here hx rfl (hb hby d_method_4_code_25) k) ?_
        show Go p e below _ (s₁.setTop (mkF m 26 #[vI e1] [(.int (3 : Int32)), (.int e1)]))
        by_cases u3 : e1 = (3 : Int32)
        · skip
          refine Go.step (fun _ k => XS.icmpNo X0.here hx rfl (hb hby d_method_4_code_26) rfl (teq u3).2 k) ?_
          show Go p e below _ (s₁.setTop (mkF m 29 #[vI e1] []))
          refine Go.step (fun _ k => X0.ldc2Long hx hown (mvT hZ (wd_99 hw)) (g := (mkF m 29 #[vI e1] [])) rfl (hb hby d_method_4_code_29) _ k) ?_
          show Go p e below _ (s₁.setTop (mkF m 32 #[vI e1] [(.long (1000 : Int64))]))
          exact Go.retV X0 hx hlk hret rfl (Or.inr (Or.inl ⟨rfl, rfl, _, rfl⟩)) (hb hby d_method_4_code_32) (by decide) (by decide) (by rw [e0]; exact ⟨(by rw [p10, if_neg u0, if_neg u1, if_neg u2, if_pos u3]), N0, rfl⟩)
        · skip
          refine Go.step (fun _ k => XS.icmpYes X0.here hx rfl (pc0 := 26) (pc' := 33) rfl (hb hby d_method_4_code_26) rfl (feq u3).2 (by decide) (by decide) k) ?_
          show Go p e below _ (s₁.setTop (mkF m 33 #[vI e1] []))
          refine Go.step (fun _ k => XS.iloadN X0.here hx rfl (hb hby d_method_4_code_33) rfl  k) ?_
          refine Go.step (fun _ k => XS.iconst X0.here hx rfl (hb hby d_method_4_code_34) k) ?_
          show Go p e below _ (s₁.setTop (mkF m 35 #[vI e1] [(.int (4 : Int32)), (.int e1)]))
          by_cases u4 : e1 = (4 : Int32)
          · skip
            refine Go.step (fun _ k => XS.icmpNo X0.here hx rfl (hb hby d_method_4_code_35) rfl (teq u4).2 k) ?_
            show Go p e below _ (s₁.setTop (mkF m 38 #[vI e1] []))
            refine Go.step (fun _ k => X0.ldc2Long hx hown (mvT hZ (wd_106 hw)) (g := (mkF m 38 #[vI e1] [])) rfl (hb hby d_method_4_code_38) _ k) ?_
            show Go p e below _ (s₁.setTop (mkF m 41 #[vI e1] [(.long (10000 : Int64))]))
            exact Go.retV X0 hx hlk hret rfl (Or.inr (Or.inl ⟨rfl, rfl, _, rfl⟩)) (hb hby d_method_4_code_41) (by decide) (by decide) (by rw [e0]; exact ⟨(by rw [p10, if_neg u0, if_neg u1, if_neg u2, if_neg u3, if_pos u4]), N0, rfl⟩)
          · skip
            refine Go.step (fun _ k => XS.icmpYes X0.here hx rfl (pc0 := 35) (pc' := 42) rfl (hb hby d_method_4_code_35) rfl (feq u4).2 (by decide) (by decide) k) ?_
            show Go p e below _ (s₁.setTop (mkF m 42 #[vI e1] []))
            refine Go.step (fun _ k => X0.ldc2Long hx hown (mvT hZ (wd_107 hw)) (g := (mkF m 42 #[vI e1] [])) rfl (hb hby d_method_4_code_42) _ k) ?_
            show Go p e below _ (s₁.setTop (mkF m 45 #[vI e1] [(.long (100000 : Int64))]))
            exact Go.retV X0 hx hlk hret rfl (Or.inr (Or.inl ⟨rfl, rfl, _, rfl⟩)) (hb hby d_method_4_code_45) (by decide) (by decide) (by rw [e0]; exact ⟨(by rw [p10, if_neg u0, if_neg u1, if_neg u2, if_neg u3, if_neg u4]), N0, rfl⟩)
--@E
--@C tm
def Q_tm (Z : State) (zc : Int32) (vfm : Value) (c1 : Int32) (k1 : Int32) (f1 : Int32) (t1 : Int32) (h0 : Heap) (n0 : Nat) (v : Option Value) (h : Heap) (L : List Loc) : Prop := v = some (.long (tm c1 k1 f1 t1)) ∧ Fr n0 L ∧ h = h0
set_option maxRecDepth 65536 in
set_option maxHeartbeats 40000000 in
theorem rm_tm (l : Launch) (Z : State) (a0 : Array Value) (hw : ∀ d ∈ tables_1, d.before a0 Z = true) (zc : Int32) (vfm : Value) (c1 : Int32) (k1 : Int32) (f1 : Int32) (t1 : Int32) (h0 : Heap) (n0 : Nat) (Z0 : n0 ≤ h0.size) (hSt : St Z zc vfm) (hO : Old Z n0 h0) :
    CN l Z ({ cls := "com/example/sigyn/sigyn/DigitsReadPinLaw", name := "term", desc := "(CIII)J" } : Jvm.MethodName) [(Jvm.Cond.code ({ cls := "com/example/sigyn/sigyn/DigitsReadPinLaw", name := "term", desc := "(CIII)J" } : Jvm.MethodName) method_5_code (5 : Nat) (Option.some Jvm.ClassFile.FieldType.long))] ({ frames := 1, cells := 0, slots := 0, locals := 14 } : Room) #[(.int c1), (.int k1), (.int f1), (.int t1)] h0 (Q_tm Z zc vfm c1 k1 f1 t1 h0 n0) := by
  refine CN.of (L0 := #[vI c1, vI k1, vI f1, vI t1, vU]) (plainFor_of_name pn_0) (fun m => by first | (simp [entryFrame, mkF, argsToLocals, Value.category]; done) | rfl) ?_
  intro p e s m below meth c s₁ hx hby hml hret hlk hZ hown hnm X0 e0
  have N0 := Fr.nil n0
  have KP0 := Keep.refl h0 []
  have hSt_ := hSt
  obtain ⟨S_cs, n_cs, S_fm, r_fm, S_ad, S_hi, S_lo⟩ := hSt_
  show Go p e below _ (s₁.setTop (mkF m 0 #[vI c1, vI k1, vI f1, vI t1, vU] []))
  refine Go.step (fun _ k => XS.iloadN X0.here hx rfl (hb hby d_method_5_code_0) rfl  k) ?_
  refine Go.step (fun _ k => XS.iloadN X0.here hx rfl (hb hby d_method_5_code_1) rfl  k) ?_
  show Go p e below _ (s₁.setTop (mkF m 2 #[vI c1, vI k1, vI f1, vI t1, vU] [(.int f1), (.int k1)]))
  by_cases u0 : k1 < f1
  · skip
    refine Go.step (fun _ k => XS.icmpYes X0.here hx rfl (pc0 := 2) (pc' := 10) rfl (hb hby d_method_5_code_2) rfl (tlt u0).1 (by decide) (by decide) k) ?_
    show Go p e below _ (s₁.setTop (mkF m 10 #[vI c1, vI k1, vI f1, vI t1, vU] []))
    refine Go.step (fun _ k => XS.lconst X0.here hx rfl (hb hby d_method_5_code_10) k) ?_
    show Go p e below _ (s₁.setTop (mkF m 11 #[vI c1, vI k1, vI f1, vI t1, vU] [(.long (0 : Int64))]))
    exact Go.retV X0 hx hlk hret rfl (Or.inr (Or.inl ⟨rfl, rfl, _, rfl⟩)) (hb hby d_method_5_code_11) (by decide) (by decide) (by rw [e0]; exact ⟨(by rw [tm, if_pos u0]), N0, rfl⟩)
  · skip
    refine Go.step (fun _ k => XS.icmpNo X0.here hx rfl (hb hby d_method_5_code_2) rfl (flt u0).1 k) ?_
    show Go p e below _ (s₁.setTop (mkF m 5 #[vI c1, vI k1, vI f1, vI t1, vU] []))
    refine Go.step (fun _ k => XS.iloadN X0.here hx rfl (hb hby d_method_5_code_5) rfl  k) ?_
    refine Go.step (fun _ k => XS.iloadN X0.here hx rfl (hb hby d_method_5_code_6) rfl  k) ?_
    show Go p e below _ (s₁.setTop (mkF m 7 #[vI c1, vI k1, vI f1, vI t1, vU] [(.int t1), (.int k1)]))
    by_cases u1 : k1 < t1
    · skip
      refine Go.step (fun _ k => XS.icmpYes X0.here hx rfl (pc0 := 7) (pc' := 12) rfl (hb hby d_method_5_code_7) rfl (tlt u1).1 (by decide) (by decide) k) ?_
      show Go p e below _ (s₁.setTop (mkF m 12 #[vI c1, vI k1, vI f1, vI t1, vU] []))
      refine Go.step (fun _ k => XS.iloadN X0.here hx rfl (hb hby d_method_5_code_12) rfl  k) ?_
      show Go p e below _ (s₁.setTop (mkF m 13 #[vI c1, vI k1, vI f1, vI t1, vU] [(.int c1)]))
      obtain ⟨v_260, T_260, L_260, X_260, hQ_260, st_260⟩ := goS X0 hx hZ (y := Y_17) hown (wd_90 hw) (wd_91 hw) (wd_3 hw) (wd_92 hw) (by decide) (backOf (W := 0) (rm_dv l Z a0 hw zc vfm (c1) h0 n0 (Nat.le_trans Z0 KP0.1) hSt hO) hZ (wd_92 hw) (wd_3 hw) (by decide) (by decide)) e0 (g := (mkF m 13 #[vI c1, vI k1, vI f1, vI t1, vU] [(.int c1)])) rfl (by rw [hml]; rfl) (argsL := [(.int c1)]) (rest := []) rfl (lenOf pd_14 rfl) rfl (by show 2 * 0 + _ ≤ _; exact Nat.le_of_eq rfl) (hb hby d_method_5_code_13) (by decide) (by decide)
      obtain ⟨rfl, Nq_260, e_260⟩ := hQ_260
      have N_260 := Fr.app N0 Nq_260
      refine Go.step st_260 ?_
      show Go p e below _ (T_260.setTop (mkF m 16 #[vI c1, vI k1, vI f1, vI t1, vU] [(.int (dv c1))]))
      refine Go.step (fun _ k => XS.istore X_260.here hx rfl (hb hby d_method_5_code_16) rfl (l' := #[vI c1, vI k1, vI f1, vI t1, vI (dv c1)]) rfl k) ?_
      show Go p e below _ (T_260.setTop (mkF m 18 #[vI c1, vI k1, vI f1, vI t1, vI (dv c1)] []))
      refine Go.step (fun _ k => XS.iload X_260.here hx rfl (hb hby d_method_5_code_18) rfl  k) ?_
      show Go p e below _ (T_260.setTop (mkF m 20 #[vI c1, vI k1, vI f1, vI t1, vI (dv c1)] [(.int (dv c1))]))
      by_cases u2 : (dv c1) < (0 : Int32)
      · skip
        refine Go.step (fun _ k => XS.ifNo X_260.here hx rfl (hb hby d_method_5_code_20) rfl ((if0 _ _).trans (tlt u2).2.1) k) ?_
        show Go p e below _ (T_260.setTop (mkF m 23 #[vI c1, vI k1, vI f1, vI t1, vI (dv c1)] []))
        refine Go.step (fun _ k => X_260.ldc2Long hx hown (mvT hZ (wd_93 hw)) (g := (mkF m 23 #[vI c1, vI k1, vI f1, vI t1, vI (dv c1)] [])) rfl (hb hby d_method_5_code_23) _ k) ?_
        show Go p e below _ (T_260.setTop (mkF m 26 #[vI c1, vI k1, vI f1, vI t1, vI (dv c1)] [(.long (-1 : Int64))]))
        exact Go.retV X_260 hx hlk hret rfl (Or.inr (Or.inl ⟨rfl, rfl, _, rfl⟩)) (hb hby d_method_5_code_26) (by decide) (by decide) (by rw [e_260]; exact ⟨(by rw [tm, if_neg u0, if_pos u1, if_pos u2]), N_260, rfl⟩)
      · skip
        refine Go.step (fun _ k => XS.ifYes X_260.here hx rfl (pc0 := 20) (pc' := 27) rfl (hb hby d_method_5_code_20) rfl ((if0 _ _).trans (flt u2).2.1) (by decide) (by decide) k) ?_
        show Go p e below _ (T_260.setTop (mkF m 27 #[vI c1, vI k1, vI f1, vI t1, vI (dv c1)] []))
        refine Go.step (fun _ k => XS.iload X_260.here hx rfl (hb hby d_method_5_code_27) rfl  k) ?_
        show Go p e below _ (T_260.setTop (mkF m 29 #[vI c1, vI k1, vI f1, vI t1, vI (dv c1)] [(.int (dv c1))]))
        refine Go.step (fun _ k => XS.i2l X_260.here hx rfl (hb hby d_method_5_code_29) rfl k) ?_
        show Go p e below _ (T_260.setTop (mkF m 30 #[vI c1, vI k1, vI f1, vI t1, vI (dv c1)] [(.long (dv c1).toInt64)]))
        refine Go.step (fun _ k => XS.iloadN X_260.here hx rfl (hb hby d_method_5_code_30) rfl  k) ?_
        refine Go.step (fun _ k => XS.iconst X_260.here hx rfl (hb hby d_method_5_code_31) k) ?_
        show Go p e below _ (T_260.setTop (mkF m 32 #[vI c1, vI k1, vI f1, vI t1, vI (dv c1)] [(.int (1 : Int32)), (.int t1), (.long (dv c1).toInt64)]))
        refine Go.step (fun _ k => XS.isub X_260.here hx rfl (hb hby d_method_5_code_32) rfl k) ?_
        show Go p e below _ (T_260.setTop (mkF m 33 #[vI c1, vI k1, vI f1, vI t1, vI (dv c1)] [(.int (t1 - (1 : Int32))), (.long (dv c1).toInt64)]))
        refine Go.step (fun _ k => XS.iloadN X_260.here hx rfl (hb hby d_method_5_code_33) rfl  k) ?_
        show Go p e below _ (T_260.setTop (mkF m 34 #[vI c1, vI k1, vI f1, vI t1, vI (dv c1)] [(.int k1), (.int (t1 - (1 : Int32))), (.long (dv c1).toInt64)]))
        refine Go.step (fun _ k => XS.isub X_260.here hx rfl (hb hby d_method_5_code_34) rfl k) ?_
        show Go p e below _ (T_260.setTop (mkF m 35 #[vI c1, vI k1, vI f1, vI t1, vI (dv c1)] [(.int ((t1 - (1 : Int32)) - k1)), (.long (dv c1).toInt64)]))
        obtain ⟨v_261, T_261, L_261, X_261, hQ_261, st_261⟩ := goS X_260 hx hZ (y := Y_18) hown (wd_94 hw) (wd_95 hw) (wd_3 hw) (wd_96 hw) (by decide) (backOf (W := 2) (rm_p10 l Z a0 hw zc vfm (((t1 - (1 : Int32)) - k1)) h0 n0 (Nat.le_trans Z0 KP0.1) hSt hO) hZ (wd_96 hw) (wd_3 hw) (by decide) (by decide)) e_260 (g := (mkF m 35 #[vI c1, vI k1, vI f1, vI t1, vI (dv c1)] [(.int ((t1 - (1 : Int32)) - k1)), (.long (dv c1).toInt64)])) rfl (by rw [hml]; rfl) (argsL := [(.int ((t1 - (1 : Int32)) - k1))]) (rest := [(.long (dv c1).toInt64)]) rfl (lenOf pd_15 rfl) rfl (by show 2 * 0 + _ ≤ _; exact Nat.le_of_eq rfl) (hb hby d_method_5_code_35) (by decide) (by decide)
        obtain ⟨rfl, Nq_261, e_261⟩ := hQ_261
        have N_261 := Fr.app N_260 Nq_261
        refine Go.step st_261 ?_
        show Go p e below _ (T_261.setTop (mkF m 38 #[vI c1, vI k1, vI f1, vI t1, vI (dv c1)] [(.long (p10 ((t1 - (1 : Int32)) - k1))), (.long (dv c1).toInt64)]))
        refine Go.step (fun _ k => XS.lmul X_261.here hx rfl (hb hby d_method_5_code_38) rfl k) ?_
        show Go p e below _ (T_261.setTop (mkF m 39 #[vI c1, vI k1, vI f1, vI t1, vI (dv c1)] [(.long ((dv c1).toInt64 * (p10 ((t1 - (1 : Int32)) - k1))))]))
        exact Go.retV X_261 hx hlk hret rfl (Or.inr (Or.inl ⟨rfl, rfl, _, rfl⟩)) (hb hby d_method_5_code_39) (by decide) (by decide) (by rw [e_261]; exact ⟨(by rw [tm, if_neg u0, if_pos u1, if_neg u2]), N_261, rfl⟩)
    · skip
      refine Go.step (fun _ k => XS.icmpNo X0.here hx rfl (hb hby d_method_5_code_7) rfl (flt u1).1 k) ?_
      show Go p e below _ (s₁.setTop (mkF m 10 #[vI c1, vI k1, vI f1, vI t1, vU] []))
      refine Go.step (fun _ k => XS.lconst X0.here hx rfl (hb hby d_method_5_code_10) k) ?_
      show Go p e below _ (s₁.setTop (mkF m 11 #[vI c1, vI k1, vI f1, vI t1, vU] [(.long (0 : Int64))]))
      exact Go.retV X0 hx hlk hret rfl (Or.inr (Or.inl ⟨rfl, rfl, _, rfl⟩)) (hb hby d_method_5_code_11) (by decide) (by decide) (by rw [e0]; exact ⟨(by rw [tm, if_neg u0, if_neg u1]), N0, rfl⟩)
--@E
def pw : Nat → Int64
  | 0 => 1
  | n + 1 => pw n * 10
theorem dv_ge {c : Int32} (h : ¬ dv c < (0 : Int32)) : ¬ c < (48 : Int32) ∧ ¬ (57 : Int32) < c ∧ dv c = c - (48 : Int32) ∧ 0 ≤ (dv c).toInt ∧ (dv c).toInt ≤ 9 := by
  unfold dv at h ⊢
  by_cases a : c < (48 : Int32)
  · rw [if_pos a] at h; exact absurd h (by decide)
  by_cases b : (57 : Int32) < c
  · rw [if_neg a, if_pos b] at h; exact absurd h (by decide)
  rw [if_neg a, if_neg b]
  have e1 : (48 : Int32).toInt = 48 := by decide
  have e2 : (57 : Int32).toInt = 57 := by decide
  have q := c_isub c 48
  have r := rng32 (c - (48 : Int32))
  have a' := a
  have b' := b
  rw [Int32.lt_iff_toInt_lt] at a' b'
  rw [e1] at q
  refine ⟨a, b, rfl, ?_, ?_⟩ <;> omega
theorem dv_lt {c : Int32} (h : dv c < (0 : Int32)) : c < (48 : Int32) ∨ (57 : Int32) < c := by
  by_cases a : c < (48 : Int32)
  · exact Or.inl a
  by_cases b : (57 : Int32) < c
  · exact Or.inr b
  unfold dv at h
  rw [if_neg a, if_neg b, Int32.lt_iff_toInt_lt] at h
  have e1 : (48 : Int32).toInt = 48 := by decide
  have e2 : (57 : Int32).toInt = 57 := by decide
  have e0 : (0 : Int32).toInt = 0 := by decide
  have q := c_isub c 48
  have r := rng32 (c - (48 : Int32))
  rw [Int32.lt_iff_toInt_lt] at a b
  rw [e1] at q
  omega
theorem p10_cases (e : Int32) : p10 e = 1 ∨ p10 e = 10 ∨ p10 e = 100 ∨ p10 e = 1000 ∨ p10 e = 10000 ∨ p10 e = 100000 := by
  unfold p10
  split
  · exact Or.inl rfl
  split
  · exact Or.inr (Or.inl rfl)
  split
  · exact Or.inr (Or.inr (Or.inl rfl))
  split
  · exact Or.inr (Or.inr (Or.inr (Or.inl rfl)))
  split
  · exact Or.inr (Or.inr (Or.inr (Or.inr (Or.inl rfl))))
  · exact Or.inr (Or.inr (Or.inr (Or.inr (Or.inr rfl))))
theorem prod_ge {d : Int32} (hd : 0 ≤ d.toInt ∧ d.toInt ≤ 9) (e : Int32) : ¬ d.toInt64 * p10 e < (0 : Int64) := by
  have a := c_i2l d
  have q := c_lmul d.toInt64 (p10 e)
  have r := rng64 (d.toInt64 * p10 e)
  have e0 : (0 : Int64).toInt = 0 := by decide
  rw [Int64.lt_iff_toInt_lt, e0]
  rcases p10_cases e with z | z | z | z | z | z
  all_goals rw [z] at q r ⊢
  · have e1 : (1 : Int64).toInt = 1 := by decide
    rw [a, e1] at q; omega
  · have e1 : (10 : Int64).toInt = 10 := by decide
    rw [a, e1] at q
    obtain ⟨k, hk⟩ := Int.dvd_of_emod_eq_zero q
    have k0 : k = 0 := by omega
    subst k0
    omega
  · have e1 : (100 : Int64).toInt = 100 := by decide
    rw [a, e1] at q
    obtain ⟨k, hk⟩ := Int.dvd_of_emod_eq_zero q
    have k0 : k = 0 := by omega
    subst k0
    omega
  · have e1 : (1000 : Int64).toInt = 1000 := by decide
    rw [a, e1] at q
    obtain ⟨k, hk⟩ := Int.dvd_of_emod_eq_zero q
    have k0 : k = 0 := by omega
    subst k0
    omega
  · have e1 : (10000 : Int64).toInt = 10000 := by decide
    rw [a, e1] at q
    obtain ⟨k, hk⟩ := Int.dvd_of_emod_eq_zero q
    have k0 : k = 0 := by omega
    subst k0
    omega
  · have e1 : (100000 : Int64).toInt = 100000 := by decide
    rw [a, e1] at q
    obtain ⟨k, hk⟩ := Int.dvd_of_emod_eq_zero q
    have k0 : k = 0 := by omega
    subst k0
    omega
theorem tm_neg {c k f t : Int32} (h : tm c k f t < (0 : Int64)) : ¬ k < f ∧ k < t ∧ dv c < (0 : Int32) := by
  unfold tm at h
  by_cases a : k < f
  · rw [if_pos a] at h; exact absurd h (by decide)
  by_cases b : k < t
  · by_cases d : dv c < (0 : Int32)
    · exact ⟨a, b, d⟩
    · rw [if_neg a, if_pos b, if_neg d] at h
      exact absurd h (prod_ge (dv_ge d).2.2.2 _)
  · rw [if_neg a, if_neg b] at h; exact absurd h (by decide)
theorem tm_in {c k f t : Int32} (a : ¬ k < f) (b : k < t) (h : ¬ tm c k f t < (0 : Int64)) : ¬ dv c < (0 : Int32) ∧ tm c k f t = (dv c).toInt64 * p10 (t - (1 : Int32) - k) := by
  unfold tm at h ⊢
  by_cases d : dv c < (0 : Int32)
  · rw [if_neg a, if_pos b, if_pos d] at h; exact absurd (by decide) h
  · rw [if_neg a, if_pos b, if_neg d]; exact ⟨d, rfl⟩
theorem tm_before {c k f t : Int32} (a : k < f) : tm c k f t = 0 := by unfold tm; rw [if_pos a]
theorem tm_behind {c k f t : Int32} (b : ¬ k < t) : tm c k f t = 0 := by
  unfold tm
  by_cases a : k < f
  · rw [if_pos a]
  · rw [if_neg a, if_neg b]
theorem rd_off {g : Int32 → Int32} {t i : Int32} {acc : Int64} (h : ¬ i < t) : ∀ n, rdF g t n i acc = acc
  | 0 => rfl
  | n + 1 => by rw [rdF, if_neg h]
theorem rd_bad {g : Int32 → Int32} {t k : Int32} (hk : k.toInt ≤ 6) (hkt : k < t) (hb : g k < (48 : Int32) ∨ (57 : Int32) < g k) : ∀ (n : Nat) (i : Int32) (acc : Int64), 0 ≤ i.toInt → i.toInt ≤ k.toInt → k.toInt - i.toInt < n → rdF g t n i acc = -1
  | 0, i, acc, _, h1, h2 => by omega
  | n + 1, i, acc, h0, h1, h2 => by
    have hit : i < t := by rw [Int32.lt_iff_toInt_lt] at hkt ⊢; omega
    rw [rdF, if_pos hit]
    by_cases a : g i < (48 : Int32)
    · rw [if_pos a]
    by_cases b : (57 : Int32) < g i
    · rw [if_neg a, if_pos b]
    rw [if_neg a, if_neg b]
    have hne : i.toInt ≠ k.toInt := fun q => by
      cases Int32.toInt_inj.mp q
      exact hb.elim a b
    have e := plus1 (i := i) rfl ⟨h0, by omega⟩
    exact rd_bad hk hkt hb n (i + (1 : Int32)) _ (by omega) (by omega) (by omega)
theorem p10_pw {t i : Int32} (h : 0 ≤ i.toInt ∧ i.toInt < t.toInt ∧ t.toInt ≤ 6) : p10 (t - (1 : Int32) - i) = pw (t.toInt - (i.toInt + 1)).toNat ∧ pw (t.toInt - i.toInt).toNat = pw (t.toInt - (i.toInt + 1)).toNat * 10 := by
  have a := c_isub t 1
  have b := c_isub (t - 1) i
  have c := rng32 (t - (1 : Int32) - i)
  have d := rng32 (t - (1 : Int32))
  have e1 : (1 : Int32).toInt = 1 := by decide
  rw [e1] at a
  have q : (t - (1 : Int32) - i).toInt = t.toInt - 1 - i.toInt := by omega
  have r : ∀ z : Int32, (t - (1 : Int32) - i).toInt = z.toInt → p10 (t - (1 : Int32) - i) = p10 z := fun z w => by rw [Int32.toInt_inj.mp w]
  obtain ⟨m, hm⟩ : ∃ m : Nat, (t.toInt - (i.toInt + 1)).toNat = m := ⟨_, rfl⟩
  have e2 : (t.toInt - i.toInt).toNat = m + 1 := by omega
  refine ⟨?_, by rw [e2, hm, pw]⟩
  rw [hm]
  have hm6 : m = 0 ∨ m = 1 ∨ m = 2 ∨ m = 3 ∨ m = 4 ∨ m = 5 := by omega
  rcases hm6 with z | z | z | z | z | z
  · rw [r 0 (by have : (0 : Int32).toInt = 0 := by decide
                omega), z]; decide
  · rw [r 1 (by omega), z]; decide
  · rw [r 2 (by have : (2 : Int32).toInt = 2 := by decide
                omega), z]; decide
  · rw [r 3 (by have : (3 : Int32).toInt = 3 := by decide
                omega), z]; decide
  · rw [r 4 (by have : (4 : Int32).toInt = 4 := by decide
                omega), z]; decide
  · rw [r 5 (by have : (5 : Int32).toInt = 5 := by decide
                omega), z]; decide
def RR (g : Int32 → Int32) (t i : Int32) (S : Int64) : Prop := ∀ (n : Nat) (acc : Int64), 6 - i.toInt ≤ n → rdF g t n i acc = acc * pw (t.toInt - i.toInt).toNat + S
theorem rr6 {g : Int32 → Int32} {t : Int32} (ht : t.toInt ≤ 6) : RR g t 6 0 := fun n acc _ => by
  have e6 : (6 : Int32).toInt = 6 := by decide
  have h : ¬ (6 : Int32) < t := by rw [Int32.lt_iff_toInt_lt]; omega
  rw [rd_off h, e6, show (t.toInt - 6).toNat = 0 from by omega, pw, Int64.mul_one, Int64.add_zero]
theorem rr_step {g : Int32 → Int32} {f t i j : Int32} {S : Int64} (e : i + (1 : Int32) = j) (hi : 0 ≤ i.toInt ∧ i.toInt ≤ 5) (hf : f.toInt ≤ i.toInt) (ht : t.toInt ≤ 6) (hw : ¬ tm (g i) i f t < (0 : Int64)) (H : RR g t j S) : RR g t i (tm (g i) i f t + S) := by
  subst e
  have e1 := plus1 (i := i) rfl ⟨hi.1, by omega⟩
  intro n acc hn
  by_cases h : i < t
  · have hif : ¬ i < f := by rw [Int32.lt_iff_toInt_lt]; omega
    obtain ⟨hd, et⟩ := tm_in hif h hw
    obtain ⟨a, b, ed, -, -⟩ := dv_ge hd
    have h' := h
    rw [Int32.lt_iff_toInt_lt] at h'
    obtain ⟨p1, p2⟩ := p10_pw (t := t) (i := i) ⟨hi.1, h', ht⟩
    obtain ⟨m, rfl⟩ : ∃ m, n = m + 1 := ⟨n - 1, by omega⟩
    rw [rdF, if_pos h, if_neg a, if_neg b, H m _ (by omega), e1, et, p1, p2, ed, Int64.add_mul, Int64.mul_assoc, Int64.mul_comm 10, Int64.add_assoc]
  · have h' := h
    rw [Int32.lt_iff_toInt_lt] at h'
    have h1 : ¬ (i + (1 : Int32)) < t := by rw [Int32.lt_iff_toInt_lt]; omega
    have z := H 6 0 (by omega)
    rw [rd_off h1, Int64.zero_mul, Int64.zero_add] at z
    rw [rd_off h, tm_behind h, ← z, show (t.toInt - i.toInt).toNat = 0 from by omega, pw, Int64.mul_one, Int64.add_zero, Int64.add_zero]
section Fin
variable {c0 c1 c2 c3 c4 c5 f t : Int32}
theorem math_neg {k c : Int32} (hft : 0 ≤ f.toInt ∧ f.toInt ≤ t.toInt ∧ t.toInt ≤ 6) (e : sel c0 c1 c2 c3 c4 c5 k = c) (w : tm c k f t < (0 : Int64)) : rdF (sel c0 c1 c2 c3 c4 c5) t 6 f 0 = -1 := by
  obtain ⟨a, b, d⟩ := tm_neg w
  have b' := b
  rw [Int32.lt_iff_toInt_lt] at a b'
  exact rd_bad (by omega) b (by rw [e]; exact dv_lt d) 6 f 0 hft.1 (by omega) (by omega)
theorem math0 (_ : 0 ≤ c0.toInt ∧ c0.toInt ≤ 65535) (_ : 0 ≤ c1.toInt ∧ c1.toInt ≤ 65535) (_ : 0 ≤ c2.toInt ∧ c2.toInt ≤ 65535) (_ : 0 ≤ c3.toInt ∧ c3.toInt ≤ 65535) (_ : 0 ≤ c4.toInt ∧ c4.toInt ≤ 65535) (_ : 0 ≤ c5.toInt ∧ c5.toInt ≤ 65535) (hft : 0 ≤ f.toInt ∧ f.toInt ≤ t.toInt ∧ t.toInt ≤ 6) (w0 : tm c0 0 f t < (0 : Int64)) : rdF (sel c0 c1 c2 c3 c4 c5) t 6 f 0 = -1 := math_neg hft rfl w0
theorem math1 (_ : 0 ≤ c0.toInt ∧ c0.toInt ≤ 65535) (_ : 0 ≤ c1.toInt ∧ c1.toInt ≤ 65535) (_ : 0 ≤ c2.toInt ∧ c2.toInt ≤ 65535) (_ : 0 ≤ c3.toInt ∧ c3.toInt ≤ 65535) (_ : 0 ≤ c4.toInt ∧ c4.toInt ≤ 65535) (_ : 0 ≤ c5.toInt ∧ c5.toInt ≤ 65535) (hft : 0 ≤ f.toInt ∧ f.toInt ≤ t.toInt ∧ t.toInt ≤ 6) (_ : ¬ tm c0 0 f t < (0 : Int64)) (w : tm c1 1 f t < (0 : Int64)) : rdF (sel c0 c1 c2 c3 c4 c5) t 6 f 0 = -1 := math_neg hft rfl w
theorem math2 (_ : 0 ≤ c0.toInt ∧ c0.toInt ≤ 65535) (_ : 0 ≤ c1.toInt ∧ c1.toInt ≤ 65535) (_ : 0 ≤ c2.toInt ∧ c2.toInt ≤ 65535) (_ : 0 ≤ c3.toInt ∧ c3.toInt ≤ 65535) (_ : 0 ≤ c4.toInt ∧ c4.toInt ≤ 65535) (_ : 0 ≤ c5.toInt ∧ c5.toInt ≤ 65535) (hft : 0 ≤ f.toInt ∧ f.toInt ≤ t.toInt ∧ t.toInt ≤ 6) (_ : ¬ tm c0 0 f t < (0 : Int64)) (_ : ¬ tm c1 1 f t < (0 : Int64)) (w : tm c2 2 f t < (0 : Int64)) : rdF (sel c0 c1 c2 c3 c4 c5) t 6 f 0 = -1 := math_neg hft rfl w
theorem math3 (_ : 0 ≤ c0.toInt ∧ c0.toInt ≤ 65535) (_ : 0 ≤ c1.toInt ∧ c1.toInt ≤ 65535) (_ : 0 ≤ c2.toInt ∧ c2.toInt ≤ 65535) (_ : 0 ≤ c3.toInt ∧ c3.toInt ≤ 65535) (_ : 0 ≤ c4.toInt ∧ c4.toInt ≤ 65535) (_ : 0 ≤ c5.toInt ∧ c5.toInt ≤ 65535) (hft : 0 ≤ f.toInt ∧ f.toInt ≤ t.toInt ∧ t.toInt ≤ 6) (_ : ¬ tm c0 0 f t < (0 : Int64)) (_ : ¬ tm c1 1 f t < (0 : Int64)) (_ : ¬ tm c2 2 f t < (0 : Int64)) (w : tm c3 3 f t < (0 : Int64)) : rdF (sel c0 c1 c2 c3 c4 c5) t 6 f 0 = -1 := math_neg hft rfl w
theorem math4 (_ : 0 ≤ c0.toInt ∧ c0.toInt ≤ 65535) (_ : 0 ≤ c1.toInt ∧ c1.toInt ≤ 65535) (_ : 0 ≤ c2.toInt ∧ c2.toInt ≤ 65535) (_ : 0 ≤ c3.toInt ∧ c3.toInt ≤ 65535) (_ : 0 ≤ c4.toInt ∧ c4.toInt ≤ 65535) (_ : 0 ≤ c5.toInt ∧ c5.toInt ≤ 65535) (hft : 0 ≤ f.toInt ∧ f.toInt ≤ t.toInt ∧ t.toInt ≤ 6) (_ : ¬ tm c0 0 f t < (0 : Int64)) (_ : ¬ tm c1 1 f t < (0 : Int64)) (_ : ¬ tm c2 2 f t < (0 : Int64)) (_ : ¬ tm c3 3 f t < (0 : Int64)) (w : tm c4 4 f t < (0 : Int64)) : rdF (sel c0 c1 c2 c3 c4 c5) t 6 f 0 = -1 := math_neg hft rfl w
theorem math5 (_ : 0 ≤ c0.toInt ∧ c0.toInt ≤ 65535) (_ : 0 ≤ c1.toInt ∧ c1.toInt ≤ 65535) (_ : 0 ≤ c2.toInt ∧ c2.toInt ≤ 65535) (_ : 0 ≤ c3.toInt ∧ c3.toInt ≤ 65535) (_ : 0 ≤ c4.toInt ∧ c4.toInt ≤ 65535) (_ : 0 ≤ c5.toInt ∧ c5.toInt ≤ 65535) (hft : 0 ≤ f.toInt ∧ f.toInt ≤ t.toInt ∧ t.toInt ≤ 6) (_ : ¬ tm c0 0 f t < (0 : Int64)) (_ : ¬ tm c1 1 f t < (0 : Int64)) (_ : ¬ tm c2 2 f t < (0 : Int64)) (_ : ¬ tm c3 3 f t < (0 : Int64)) (_ : ¬ tm c4 4 f t < (0 : Int64)) (w : tm c5 5 f t < (0 : Int64)) : rdF (sel c0 c1 c2 c3 c4 c5) t 6 f 0 = -1 := math_neg hft rfl w
theorem mathS (_ : 0 ≤ c0.toInt ∧ c0.toInt ≤ 65535) (_ : 0 ≤ c1.toInt ∧ c1.toInt ≤ 65535) (_ : 0 ≤ c2.toInt ∧ c2.toInt ≤ 65535) (_ : 0 ≤ c3.toInt ∧ c3.toInt ≤ 65535) (_ : 0 ≤ c4.toInt ∧ c4.toInt ≤ 65535) (_ : 0 ≤ c5.toInt ∧ c5.toInt ≤ 65535) (hft : 0 ≤ f.toInt ∧ f.toInt ≤ t.toInt ∧ t.toInt ≤ 6) (w0 : ¬ tm c0 0 f t < (0 : Int64)) (w1 : ¬ tm c1 1 f t < (0 : Int64)) (w2 : ¬ tm c2 2 f t < (0 : Int64)) (w3 : ¬ tm c3 3 f t < (0 : Int64)) (w4 : ¬ tm c4 4 f t < (0 : Int64)) (w5 : ¬ tm c5 5 f t < (0 : Int64)) :
    rdF (sel c0 c1 c2 c3 c4 c5) t 6 f 0 = tm c0 0 f t + tm c1 1 f t + tm c2 2 f t + tm c3 3 f t + tm c4 4 f t + tm c5 5 f t := by
  have ht := hft.2.2
  have r6 : RR (sel c0 c1 c2 c3 c4 c5) t 6 0 := rr6 ht
  have r5 : f.toInt ≤ 5 → RR (sel c0 c1 c2 c3 c4 c5) t 5 (tm c5 5 f t + 0) := fun h => rr_step (i := 5) (by decide) (by decide) h ht w5 r6
  have r4 : f.toInt ≤ 4 → RR (sel c0 c1 c2 c3 c4 c5) t 4 (tm c4 4 f t + (tm c5 5 f t + 0)) := fun h => rr_step (i := 4) (by decide) (by decide) h ht w4 (r5 (by omega))
  have r3 : f.toInt ≤ 3 → RR (sel c0 c1 c2 c3 c4 c5) t 3 (tm c3 3 f t + (tm c4 4 f t + (tm c5 5 f t + 0))) := fun h => rr_step (i := 3) (by decide) (by decide) h ht w3 (r4 (by omega))
  have r2 : f.toInt ≤ 2 → RR (sel c0 c1 c2 c3 c4 c5) t 2 (tm c2 2 f t + (tm c3 3 f t + (tm c4 4 f t + (tm c5 5 f t + 0)))) := fun h => rr_step (i := 2) (by decide) (by decide) h ht w2 (r3 (by omega))
  have r1 : f.toInt ≤ 1 → RR (sel c0 c1 c2 c3 c4 c5) t 1 (tm c1 1 f t + (tm c2 2 f t + (tm c3 3 f t + (tm c4 4 f t + (tm c5 5 f t + 0))))) := fun h => rr_step (i := 1) (by decide) (by decide) h ht w1 (r2 (by omega))
  have r0 : f.toInt ≤ 0 → RR (sel c0 c1 c2 c3 c4 c5) t 0 (tm c0 0 f t + (tm c1 1 f t + (tm c2 2 f t + (tm c3 3 f t + (tm c4 4 f t + (tm c5 5 f t + 0)))))) := fun h => rr_step (i := 0) (by decide) (by decide) h ht w0 (r1 (by omega))
  have ef : ∀ z : Int32, f.toInt = z.toInt → f = z := fun z q => Int32.toInt_inj.mp q
  have hf7 : f.toInt = 0 ∨ f.toInt = 1 ∨ f.toInt = 2 ∨ f.toInt = 3 ∨ f.toInt = 4 ∨ f.toInt = 5 ∨ f.toInt = 6 := by omega
  rcases hf7 with q | q | q | q | q | q | q
  · cases ef 0 q
    rw [r0 (by decide) 6 0 (by decide)]
    simp only [Int64.zero_mul, Int64.zero_add, Int64.add_zero, Int64.add_assoc]
  · cases ef 1 q
    rw [r1 (by decide) 6 0 (by decide), tm_before (c := c0) (k := 0) (by decide)]
    simp only [Int64.zero_mul, Int64.zero_add, Int64.add_zero, Int64.add_assoc]
  · cases ef 2 q
    rw [r2 (by decide) 6 0 (by decide), tm_before (c := c0) (k := 0) (by decide), tm_before (c := c1) (k := 1) (by decide)]
    simp only [Int64.zero_mul, Int64.zero_add, Int64.add_zero, Int64.add_assoc]
  · cases ef 3 q
    rw [r3 (by decide) 6 0 (by decide), tm_before (c := c0) (k := 0) (by decide), tm_before (c := c1) (k := 1) (by decide), tm_before (c := c2) (k := 2) (by decide)]
    simp only [Int64.zero_mul, Int64.zero_add, Int64.add_zero, Int64.add_assoc]
  · cases ef 4 q
    rw [r4 (by decide) 6 0 (by decide), tm_before (c := c0) (k := 0) (by decide), tm_before (c := c1) (k := 1) (by decide), tm_before (c := c2) (k := 2) (by decide), tm_before (c := c3) (k := 3) (by decide)]
    simp only [Int64.zero_mul, Int64.zero_add, Int64.add_zero, Int64.add_assoc]
  · cases ef 5 q
    rw [r5 (by decide) 6 0 (by decide), tm_before (c := c0) (k := 0) (by decide), tm_before (c := c1) (k := 1) (by decide), tm_before (c := c2) (k := 2) (by decide), tm_before (c := c3) (k := 3) (by decide), tm_before (c := c4) (k := 4) (by decide)]
    simp only [Int64.zero_mul, Int64.zero_add, Int64.add_zero, Int64.add_assoc]
  · cases ef 6 q
    rw [r6 6 0 (by decide), tm_before (c := c0) (k := 0) (by decide), tm_before (c := c1) (k := 1) (by decide), tm_before (c := c2) (k := 2) (by decide), tm_before (c := c3) (k := 3) (by decide), tm_before (c := c4) (k := 4) (by decide), tm_before (c := c5) (k := 5) (by decide)]
    simp only [Int64.zero_mul, Int64.zero_add, Int64.add_zero, Int64.add_assoc]
end Fin

--@C law
def Q_law (Z : State) (zc : Int32) (vfm : Value) (p0 : Int64) (p1 : Int64) (p2 : Int64) (p3 : Int32) (p4 : Int32) (h0 : Heap) (n0 : Nat) (v : Option Value) (h : Heap) (L : List Loc) : Prop := v = some (.int (1 : Int32)) ∧ Fr n0 L
set_option maxRecDepth 65536 in
set_option maxHeartbeats 40000000 in
theorem rm_law (l : Launch) (Z : State) (a0 : Array Value) (hw : ∀ d ∈ tables_1, d.before a0 Z = true) (zc : Int32) (vfm : Value) (p0 : Int64) (p1 : Int64) (p2 : Int64) (p3 : Int32) (p4 : Int32) (h0 : Heap) (n0 : Nat) (Z0 : n0 ≤ h0.size) (hSt : St Z zc vfm) (hO : Old Z n0 h0) :
    CN l Z x (Jvm.Cond.code x code maxLocals ret :: tables_1) room_1 #[(.long p0), (.long p1), (.long p2), (.int p3), (.int p4)] h0 (Q_law Z zc vfm p0 p1 p2 p3 p4 h0 n0) := by
  refine CN.of (L0 := #[vJ p0, .second, vJ p1, .second, vJ p2, .second, vI p3, vI p4, vU, vU, vU, vU, vU, vU, vU, vU, vU, vU, vU, vU, vU, vU, vU, vU, vU, vU, vU, vU]) (plainFor_of_name pn_0) (fun m => by first | (simp [entryFrame, mkF, argsToLocals, Value.category, maxLocals]; done) | rfl) ?_
  intro p e s m below meth c s₁ hx hby hml hret hlk hZ hown hnm X0 e0
  have N0 := Fr.nil n0
  have KP0 := Keep.refl h0 []
  have hSt_ := hSt
  obtain ⟨S_cs, n_cs, S_fm, r_fm, S_ad, S_hi, S_lo⟩ := hSt_
  show Go p e below _ (s₁.setTop (mkF m 0 #[vJ p0, .second, vJ p1, .second, vJ p2, .second, vI p3, vI p4, vU, vU, vU, vU, vU, vU, vU, vU, vU, vU, vU, vU, vU, vU, vU, vU, vU, vU, vU, vU] []))
  refine Go.step (fun _ k => XS.bipush X0.here hx rfl (hb hby at_0) k) ?_
  show Go p e below _ (s₁.setTop (mkF m 2 #[vJ p0, .second, vJ p1, .second, vJ p2, .second, vI p3, vI p4, vU, vU, vU, vU, vU, vU, vU, vU, vU, vU, vU, vU, vU, vU, vU, vU, vU, vU, vU, vU] [(.int (6 : Int32))]))
  obtain ⟨T_262, h_262, k_262, X_262, e_262, E_262, A_262, st_262⟩ := newP X0 hx hZ (aty := .char) (wd_0 hw) e0 (g := (mkF m 2 #[vJ p0, .second, vJ p1, .second, vJ p2, .second, vI p3, vI p4, vU, vU, vU, vU, vU, vU, vU, vU, vU, vU, vU, vU, vU, vU, vU, vU, vU, vU, vU, vU] [(.int (6 : Int32))])) rfl (hb hby at_2) rfl (by decide) (cap := 6) (by decide) (by decide) (by decide) (by decide)
  obtain ⟨b262, q_262⟩ : ∃ z, z = h0.size := ⟨_, rfl⟩
  rw [← q_262] at A_262 st_262
  refine Go.step st_262 ?_
  have le_262 : h0.size ≤ h_262.size := E_262.1
  have KP_262 := KP0.ext E_262
  have O_262 := hO.ext E_262
  have ge_262 : h0.size ≤ b262 := Nat.le_of_eq q_262.symm
  have sz_b262 : h0.size ≤ b262 := Nat.le_trans (Nat.le_refl _) ge_262
  have g_b262 : n0 ≤ b262 := Nat.le_trans Z0 sz_b262
  have V_262 : Arv Z h_262 b262 k_262 .char (6 : Int32) [(.int (0 : Int32)), (.int (0 : Int32)), (.int (0 : Int32)), (.int (0 : Int32)), (.int (0 : Int32)), (.int (0 : Int32))] (.int (0 : Int32)) := (Arv.new A_262 (by decide)).pad (pad_rep [] (.int (0 : Int32)) 6)
  show Go p e below _ (T_262.setTop (mkF m 4 #[vJ p0, .second, vJ p1, .second, vJ p2, .second, vI p3, vI p4, vU, vU, vU, vU, vU, vU, vU, vU, vU, vU, vU, vU, vU, vU, vU, vU, vU, vU, vU, vU] [(.ref b262)]))
  refine Go.step (fun _ k => XS.astore X_262.here hx rfl (hb hby at_4) rfl rfl (l' := #[vJ p0, .second, vJ p1, .second, vJ p2, .second, vI p3, vI p4, vR b262, vU, vU, vU, vU, vU, vU, vU, vU, vU, vU, vU, vU, vU, vU, vU, vU, vU, vU, vU]) rfl k) ?_
  show Go p e below _ (T_262.setTop (mkF m 6 #[vJ p0, .second, vJ p1, .second, vJ p2, .second, vI p3, vI p4, vR b262, vU, vU, vU, vU, vU, vU, vU, vU, vU, vU, vU, vU, vU, vU, vU, vU, vU, vU, vU] []))
  refine Go.step (fun _ k => XS.aload X_262.here hx rfl (hb hby at_6) rfl rfl k) ?_
  refine Go.step (fun _ k => XS.iconst X_262.here hx rfl (hb hby at_8) k) ?_
  refine Go.step (fun _ k => XS.lloadN X_262.here hx rfl (hb hby at_9) rfl  k) ?_
  show Go p e below _ (T_262.setTop (mkF m 10 #[vJ p0, .second, vJ p1, .second, vJ p2, .second, vI p3, vI p4, vR b262, vU, vU, vU, vU, vU, vU, vU, vU, vU, vU, vU, vU, vU, vU, vU, vU, vU, vU, vU] [(.long p0), (.int (0 : Int32)), (.ref b262)]))
  refine Go.step (fun _ k => XS.l2i X_262.here hx rfl (hb hby at_10) rfl k) ?_
  show Go p e below _ (T_262.setTop (mkF m 11 #[vJ p0, .second, vJ p1, .second, vJ p2, .second, vI p3, vI p4, vR b262, vU, vU, vU, vU, vU, vU, vU, vU, vU, vU, vU, vU, vU, vU, vU, vU, vU, vU, vU] [(.int p0.toInt32), (.int (0 : Int32)), (.ref b262)]))
  obtain ⟨v_263, T_263, L_263, X_263, hQ_263, st_263⟩ := goS X_262 hx hZ (y := Y_19) hown (wd_1 hw) (wd_2 hw) (wd_3 hw) (wd_4 hw) (by decide) (backOf (W := 2) (rm_pick l Z a0 hw zc vfm (p0.toInt32) h_262 n0 (Nat.le_trans Z0 KP_262.1) hSt O_262) hZ (wd_4 hw) (wd_3 hw) (by decide) (by decide)) e_262 (g := (mkF m 11 #[vJ p0, .second, vJ p1, .second, vJ p2, .second, vI p3, vI p4, vR b262, vU, vU, vU, vU, vU, vU, vU, vU, vU, vU, vU, vU, vU, vU, vU, vU, vU, vU, vU] [(.int p0.toInt32), (.int (0 : Int32)), (.ref b262)])) rfl (by rw [hml]; rfl) (argsL := [(.int p0.toInt32)]) (rest := [(.int (0 : Int32)), (.ref b262)]) rfl (lenOf pd_13 rfl) rfl (by show 2 * 0 + _ ≤ _; exact Nat.le_of_eq rfl) (hb hby at_11) (by decide) (by decide)
  obtain ⟨v1_263, rfl, Nq_263, e_263, u0_263⟩ := hQ_263
  have N_263 := Fr.app N0 Nq_263
  have hu_263 := u0_263
  refine Go.step st_263 ?_
  show Go p e below _ (T_263.setTop (mkF m 14 #[vJ p0, .second, vJ p1, .second, vJ p2, .second, vI p3, vI p4, vR b262, vU, vU, vU, vU, vU, vU, vU, vU, vU, vU, vU, vU, vU, vU, vU, vU, vU, vU, vU] [(.int v1_263), (.int (0 : Int32)), (.ref b262)]))
  have hh0 := hu_263
  show Go p e below _ (T_263.setTop (mkF m 14 #[vJ p0, .second, vJ p1, .second, vJ p2, .second, vI p3, vI p4, vR b262, vU, vU, vU, vU, vU, vU, vU, vU, vU, vU, vU, vU, vU, vU, vU, vU, vU, vU, vU] [(.int v1_263), (.int (0 : Int32)), (.ref b262)]))
  have cp265 := V_262
  obtain ⟨cl_264, Ar_264, ck_264, Sz_264, Ng_264, Hs_264, Gs_264⟩ := cp265
  have hin_264 : ¬ ((0 : Int32) < 0 ∨ cl_264.slots.size ≤ ((0 : Int32)).toNatClampNeg) := inb_of Sz_264 ⟨by decide, by decide⟩
  obtain ⟨T_264, h_264, X_264, e_264, W_264, st_264⟩ := stC X_263 hx hZ e_263 Ar_264 (j := (0 : Int32)) hin_264 (g := (mkF m 14 #[vJ p0, .second, vJ p1, .second, vJ p2, .second, vI p3, vI p4, vR b262, vU, vU, vU, vU, vU, vU, vU, vU, vU, vU, vU, vU, vU, vU, vU, vU, vU, vU, vU] [(.int v1_263), (.int (0 : Int32)), (.ref b262)])) rfl rfl (hb hby at_14)
  refine Go.step st_264 ?_
  have N_264 := Fr.snoc X_264 N_263 g_b262
  have le_264 : h_262.size ≤ h_264.size := Nat.le_of_eq W_264.size.symm
  have KP_264 := KP_262.wr W_264 (Or.inr sz_b262)
  have O_264 := O_262.wr W_264 g_b262
  have V_264 : Arv Z h_264 b262 k_262 .char (6 : Int32) [(.int v1_263), (.int (0 : Int32)), (.int (0 : Int32)), (.int (0 : Int32)), (.int (0 : Int32)), (.int (0 : Int32))] (.int (0 : Int32)) := by
    have q := Arv.set Ar_264 ck_264 Sz_264 Ng_264 Hs_264 Gs_264 (fits_nar_char _) W_264 0 rfl (Nat.le_of_ble_eq_true rfl)
    rw [nar_u hu_263] at q; exact q
  show Go p e below _ (T_264.setTop (mkF m 15 #[vJ p0, .second, vJ p1, .second, vJ p2, .second, vI p3, vI p4, vR b262, vU, vU, vU, vU, vU, vU, vU, vU, vU, vU, vU, vU, vU, vU, vU, vU, vU, vU, vU] []))
  refine Go.step (fun _ k => XS.aload X_264.here hx rfl (hb hby at_15) rfl rfl k) ?_
  refine Go.step (fun _ k => XS.iconst X_264.here hx rfl (hb hby at_17) k) ?_
  refine Go.step (fun _ k => XS.lloadN X_264.here hx rfl (hb hby at_18) rfl  k) ?_
  refine Go.step (fun _ k => XS.bipush X_264.here hx rfl (hb hby at_19) k) ?_
  show Go p e below _ (T_264.setTop (mkF m 21 #[vJ p0, .second, vJ p1, .second, vJ p2, .second, vI p3, vI p4, vR b262, vU, vU, vU, vU, vU, vU, vU, vU, vU, vU, vU, vU, vU, vU, vU, vU, vU, vU, vU] [(.int (32 : Int32)), (.long p0), (.int (1 : Int32)), (.ref b262)]))
  refine Go.step (fun _ k => XS.lushr X_264.here hx rfl (hb hby at_21) rfl k) ?_
  show Go p e below _ (T_264.setTop (mkF m 22 #[vJ p0, .second, vJ p1, .second, vJ p2, .second, vI p3, vI p4, vR b262, vU, vU, vU, vU, vU, vU, vU, vU, vU, vU, vU, vU, vU, vU, vU, vU, vU, vU, vU] [(.long ((p0.toUInt64 >>> ((32 : Int32) &&& 0x3f).toInt64.toUInt64).toInt64)), (.int (1 : Int32)), (.ref b262)]))
  refine Go.step (fun _ k => XS.l2i X_264.here hx rfl (hb hby at_22) rfl k) ?_
  show Go p e below _ (T_264.setTop (mkF m 23 #[vJ p0, .second, vJ p1, .second, vJ p2, .second, vI p3, vI p4, vR b262, vU, vU, vU, vU, vU, vU, vU, vU, vU, vU, vU, vU, vU, vU, vU, vU, vU, vU, vU] [(.int ((p0.toUInt64 >>> ((32 : Int32) &&& 0x3f).toInt64.toUInt64).toInt64).toInt32), (.int (1 : Int32)), (.ref b262)]))
  obtain ⟨v_266, T_266, L_266, X_266, hQ_266, st_266⟩ := goS X_264 hx hZ (y := Y_19) hown (wd_1 hw) (wd_2 hw) (wd_3 hw) (wd_4 hw) (by decide) (backOf (W := 2) (rm_pick l Z a0 hw zc vfm (((p0.toUInt64 >>> ((32 : Int32) &&& 0x3f).toInt64.toUInt64).toInt64).toInt32) h_264 n0 (Nat.le_trans Z0 KP_264.1) hSt O_264) hZ (wd_4 hw) (wd_3 hw) (by decide) (by decide)) e_264 (g := (mkF m 23 #[vJ p0, .second, vJ p1, .second, vJ p2, .second, vI p3, vI p4, vR b262, vU, vU, vU, vU, vU, vU, vU, vU, vU, vU, vU, vU, vU, vU, vU, vU, vU, vU, vU] [(.int ((p0.toUInt64 >>> ((32 : Int32) &&& 0x3f).toInt64.toUInt64).toInt64).toInt32), (.int (1 : Int32)), (.ref b262)])) rfl (by rw [hml]; rfl) (argsL := [(.int ((p0.toUInt64 >>> ((32 : Int32) &&& 0x3f).toInt64.toUInt64).toInt64).toInt32)]) (rest := [(.int (1 : Int32)), (.ref b262)]) rfl (lenOf pd_13 rfl) rfl (by show 2 * 0 + _ ≤ _; exact Nat.le_of_eq rfl) (hb hby at_23) (by decide) (by decide)
  obtain ⟨v1_266, rfl, Nq_266, e_266, u0_266⟩ := hQ_266
  have N_266 := Fr.app N_264 Nq_266
  have hu_266 := u0_266
  refine Go.step st_266 ?_
  show Go p e below _ (T_266.setTop (mkF m 26 #[vJ p0, .second, vJ p1, .second, vJ p2, .second, vI p3, vI p4, vR b262, vU, vU, vU, vU, vU, vU, vU, vU, vU, vU, vU, vU, vU, vU, vU, vU, vU, vU, vU] [(.int v1_266), (.int (1 : Int32)), (.ref b262)]))
  have hh1 := hu_266
  show Go p e below _ (T_266.setTop (mkF m 26 #[vJ p0, .second, vJ p1, .second, vJ p2, .second, vI p3, vI p4, vR b262, vU, vU, vU, vU, vU, vU, vU, vU, vU, vU, vU, vU, vU, vU, vU, vU, vU, vU, vU] [(.int v1_266), (.int (1 : Int32)), (.ref b262)]))
  have cp268 := V_264
  obtain ⟨cl_267, Ar_267, ck_267, Sz_267, Ng_267, Hs_267, Gs_267⟩ := cp268
  have hin_267 : ¬ ((1 : Int32) < 0 ∨ cl_267.slots.size ≤ ((1 : Int32)).toNatClampNeg) := inb_of Sz_267 ⟨by decide, by decide⟩
  obtain ⟨T_267, h_267, X_267, e_267, W_267, st_267⟩ := stC X_266 hx hZ e_266 Ar_267 (j := (1 : Int32)) hin_267 (g := (mkF m 26 #[vJ p0, .second, vJ p1, .second, vJ p2, .second, vI p3, vI p4, vR b262, vU, vU, vU, vU, vU, vU, vU, vU, vU, vU, vU, vU, vU, vU, vU, vU, vU, vU, vU] [(.int v1_266), (.int (1 : Int32)), (.ref b262)])) rfl rfl (hb hby at_26)
  refine Go.step st_267 ?_
  have N_267 := Fr.snoc X_267 N_266 g_b262
  have le_267 : h_264.size ≤ h_267.size := Nat.le_of_eq W_267.size.symm
  have KP_267 := KP_264.wr W_267 (Or.inr sz_b262)
  have O_267 := O_264.wr W_267 g_b262
  have V_267 : Arv Z h_267 b262 k_262 .char (6 : Int32) [(.int v1_263), (.int v1_266), (.int (0 : Int32)), (.int (0 : Int32)), (.int (0 : Int32)), (.int (0 : Int32))] (.int (0 : Int32)) := by
    have q := Arv.set Ar_267 ck_267 Sz_267 Ng_267 Hs_267 Gs_267 (fits_nar_char _) W_267 1 rfl (Nat.le_of_ble_eq_true rfl)
    rw [nar_u hu_266] at q; exact q
  show Go p e below _ (T_267.setTop (mkF m 27 #[vJ p0, .second, vJ p1, .second, vJ p2, .second, vI p3, vI p4, vR b262, vU, vU, vU, vU, vU, vU, vU, vU, vU, vU, vU, vU, vU, vU, vU, vU, vU, vU, vU] []))
  refine Go.step (fun _ k => XS.aload X_267.here hx rfl (hb hby at_27) rfl rfl k) ?_
  refine Go.step (fun _ k => XS.iconst X_267.here hx rfl (hb hby at_29) k) ?_
  refine Go.step (fun _ k => XS.lloadN X_267.here hx rfl (hb hby at_30) rfl  k) ?_
  show Go p e below _ (T_267.setTop (mkF m 31 #[vJ p0, .second, vJ p1, .second, vJ p2, .second, vI p3, vI p4, vR b262, vU, vU, vU, vU, vU, vU, vU, vU, vU, vU, vU, vU, vU, vU, vU, vU, vU, vU, vU] [(.long p1), (.int (2 : Int32)), (.ref b262)]))
  refine Go.step (fun _ k => XS.l2i X_267.here hx rfl (hb hby at_31) rfl k) ?_
  show Go p e below _ (T_267.setTop (mkF m 32 #[vJ p0, .second, vJ p1, .second, vJ p2, .second, vI p3, vI p4, vR b262, vU, vU, vU, vU, vU, vU, vU, vU, vU, vU, vU, vU, vU, vU, vU, vU, vU, vU, vU] [(.int p1.toInt32), (.int (2 : Int32)), (.ref b262)]))
  obtain ⟨v_269, T_269, L_269, X_269, hQ_269, st_269⟩ := goS X_267 hx hZ (y := Y_19) hown (wd_1 hw) (wd_2 hw) (wd_3 hw) (wd_4 hw) (by decide) (backOf (W := 2) (rm_pick l Z a0 hw zc vfm (p1.toInt32) h_267 n0 (Nat.le_trans Z0 KP_267.1) hSt O_267) hZ (wd_4 hw) (wd_3 hw) (by decide) (by decide)) e_267 (g := (mkF m 32 #[vJ p0, .second, vJ p1, .second, vJ p2, .second, vI p3, vI p4, vR b262, vU, vU, vU, vU, vU, vU, vU, vU, vU, vU, vU, vU, vU, vU, vU, vU, vU, vU, vU] [(.int p1.toInt32), (.int (2 : Int32)), (.ref b262)])) rfl (by rw [hml]; rfl) (argsL := [(.int p1.toInt32)]) (rest := [(.int (2 : Int32)), (.ref b262)]) rfl (lenOf pd_13 rfl) rfl (by show 2 * 0 + _ ≤ _; exact Nat.le_of_eq rfl) (hb hby at_32) (by decide) (by decide)
  obtain ⟨v1_269, rfl, Nq_269, e_269, u0_269⟩ := hQ_269
  have N_269 := Fr.app N_267 Nq_269
  have hu_269 := u0_269
  refine Go.step st_269 ?_
  show Go p e below _ (T_269.setTop (mkF m 35 #[vJ p0, .second, vJ p1, .second, vJ p2, .second, vI p3, vI p4, vR b262, vU, vU, vU, vU, vU, vU, vU, vU, vU, vU, vU, vU, vU, vU, vU, vU, vU, vU, vU] [(.int v1_269), (.int (2 : Int32)), (.ref b262)]))
  have hh2 := hu_269
  show Go p e below _ (T_269.setTop (mkF m 35 #[vJ p0, .second, vJ p1, .second, vJ p2, .second, vI p3, vI p4, vR b262, vU, vU, vU, vU, vU, vU, vU, vU, vU, vU, vU, vU, vU, vU, vU, vU, vU, vU, vU] [(.int v1_269), (.int (2 : Int32)), (.ref b262)]))
  have cp271 := V_267
  obtain ⟨cl_270, Ar_270, ck_270, Sz_270, Ng_270, Hs_270, Gs_270⟩ := cp271
  have hin_270 : ¬ ((2 : Int32) < 0 ∨ cl_270.slots.size ≤ ((2 : Int32)).toNatClampNeg) := inb_of Sz_270 ⟨by decide, by decide⟩
  obtain ⟨T_270, h_270, X_270, e_270, W_270, st_270⟩ := stC X_269 hx hZ e_269 Ar_270 (j := (2 : Int32)) hin_270 (g := (mkF m 35 #[vJ p0, .second, vJ p1, .second, vJ p2, .second, vI p3, vI p4, vR b262, vU, vU, vU, vU, vU, vU, vU, vU, vU, vU, vU, vU, vU, vU, vU, vU, vU, vU, vU] [(.int v1_269), (.int (2 : Int32)), (.ref b262)])) rfl rfl (hb hby at_35)
  refine Go.step st_270 ?_
  have N_270 := Fr.snoc X_270 N_269 g_b262
  have le_270 : h_267.size ≤ h_270.size := Nat.le_of_eq W_270.size.symm
  have KP_270 := KP_267.wr W_270 (Or.inr sz_b262)
  have O_270 := O_267.wr W_270 g_b262
  have V_270 : Arv Z h_270 b262 k_262 .char (6 : Int32) [(.int v1_263), (.int v1_266), (.int v1_269), (.int (0 : Int32)), (.int (0 : Int32)), (.int (0 : Int32))] (.int (0 : Int32)) := by
    have q := Arv.set Ar_270 ck_270 Sz_270 Ng_270 Hs_270 Gs_270 (fits_nar_char _) W_270 2 rfl (Nat.le_of_ble_eq_true rfl)
    rw [nar_u hu_269] at q; exact q
  show Go p e below _ (T_270.setTop (mkF m 36 #[vJ p0, .second, vJ p1, .second, vJ p2, .second, vI p3, vI p4, vR b262, vU, vU, vU, vU, vU, vU, vU, vU, vU, vU, vU, vU, vU, vU, vU, vU, vU, vU, vU] []))
  refine Go.step (fun _ k => XS.aload X_270.here hx rfl (hb hby at_36) rfl rfl k) ?_
  refine Go.step (fun _ k => XS.iconst X_270.here hx rfl (hb hby at_38) k) ?_
  refine Go.step (fun _ k => XS.lloadN X_270.here hx rfl (hb hby at_39) rfl  k) ?_
  refine Go.step (fun _ k => XS.bipush X_270.here hx rfl (hb hby at_40) k) ?_
  show Go p e below _ (T_270.setTop (mkF m 42 #[vJ p0, .second, vJ p1, .second, vJ p2, .second, vI p3, vI p4, vR b262, vU, vU, vU, vU, vU, vU, vU, vU, vU, vU, vU, vU, vU, vU, vU, vU, vU, vU, vU] [(.int (32 : Int32)), (.long p1), (.int (3 : Int32)), (.ref b262)]))
  refine Go.step (fun _ k => XS.lushr X_270.here hx rfl (hb hby at_42) rfl k) ?_
  show Go p e below _ (T_270.setTop (mkF m 43 #[vJ p0, .second, vJ p1, .second, vJ p2, .second, vI p3, vI p4, vR b262, vU, vU, vU, vU, vU, vU, vU, vU, vU, vU, vU, vU, vU, vU, vU, vU, vU, vU, vU] [(.long ((p1.toUInt64 >>> ((32 : Int32) &&& 0x3f).toInt64.toUInt64).toInt64)), (.int (3 : Int32)), (.ref b262)]))
  refine Go.step (fun _ k => XS.l2i X_270.here hx rfl (hb hby at_43) rfl k) ?_
  show Go p e below _ (T_270.setTop (mkF m 44 #[vJ p0, .second, vJ p1, .second, vJ p2, .second, vI p3, vI p4, vR b262, vU, vU, vU, vU, vU, vU, vU, vU, vU, vU, vU, vU, vU, vU, vU, vU, vU, vU, vU] [(.int ((p1.toUInt64 >>> ((32 : Int32) &&& 0x3f).toInt64.toUInt64).toInt64).toInt32), (.int (3 : Int32)), (.ref b262)]))
  obtain ⟨v_272, T_272, L_272, X_272, hQ_272, st_272⟩ := goS X_270 hx hZ (y := Y_19) hown (wd_1 hw) (wd_2 hw) (wd_3 hw) (wd_4 hw) (by decide) (backOf (W := 2) (rm_pick l Z a0 hw zc vfm (((p1.toUInt64 >>> ((32 : Int32) &&& 0x3f).toInt64.toUInt64).toInt64).toInt32) h_270 n0 (Nat.le_trans Z0 KP_270.1) hSt O_270) hZ (wd_4 hw) (wd_3 hw) (by decide) (by decide)) e_270 (g := (mkF m 44 #[vJ p0, .second, vJ p1, .second, vJ p2, .second, vI p3, vI p4, vR b262, vU, vU, vU, vU, vU, vU, vU, vU, vU, vU, vU, vU, vU, vU, vU, vU, vU, vU, vU] [(.int ((p1.toUInt64 >>> ((32 : Int32) &&& 0x3f).toInt64.toUInt64).toInt64).toInt32), (.int (3 : Int32)), (.ref b262)])) rfl (by rw [hml]; rfl) (argsL := [(.int ((p1.toUInt64 >>> ((32 : Int32) &&& 0x3f).toInt64.toUInt64).toInt64).toInt32)]) (rest := [(.int (3 : Int32)), (.ref b262)]) rfl (lenOf pd_13 rfl) rfl (by show 2 * 0 + _ ≤ _; exact Nat.le_of_eq rfl) (hb hby at_44) (by decide) (by decide)
  obtain ⟨v1_272, rfl, Nq_272, e_272, u0_272⟩ := hQ_272
  have N_272 := Fr.app N_270 Nq_272
  have hu_272 := u0_272
  refine Go.step st_272 ?_
  show Go p e below _ (T_272.setTop (mkF m 47 #[vJ p0, .second, vJ p1, .second, vJ p2, .second, vI p3, vI p4, vR b262, vU, vU, vU, vU, vU, vU, vU, vU, vU, vU, vU, vU, vU, vU, vU, vU, vU, vU, vU] [(.int v1_272), (.int (3 : Int32)), (.ref b262)]))
  have hh3 := hu_272
  show Go p e below _ (T_272.setTop (mkF m 47 #[vJ p0, .second, vJ p1, .second, vJ p2, .second, vI p3, vI p4, vR b262, vU, vU, vU, vU, vU, vU, vU, vU, vU, vU, vU, vU, vU, vU, vU, vU, vU, vU, vU] [(.int v1_272), (.int (3 : Int32)), (.ref b262)]))
  have cp274 := V_270
  obtain ⟨cl_273, Ar_273, ck_273, Sz_273, Ng_273, Hs_273, Gs_273⟩ := cp274
  have hin_273 : ¬ ((3 : Int32) < 0 ∨ cl_273.slots.size ≤ ((3 : Int32)).toNatClampNeg) := inb_of Sz_273 ⟨by decide, by decide⟩
  obtain ⟨T_273, h_273, X_273, e_273, W_273, st_273⟩ := stC X_272 hx hZ e_272 Ar_273 (j := (3 : Int32)) hin_273 (g := (mkF m 47 #[vJ p0, .second, vJ p1, .second, vJ p2, .second, vI p3, vI p4, vR b262, vU, vU, vU, vU, vU, vU, vU, vU, vU, vU, vU, vU, vU, vU, vU, vU, vU, vU, vU] [(.int v1_272), (.int (3 : Int32)), (.ref b262)])) rfl rfl (hb hby at_47)
  refine Go.step st_273 ?_
  have N_273 := Fr.snoc X_273 N_272 g_b262
  have le_273 : h_270.size ≤ h_273.size := Nat.le_of_eq W_273.size.symm
  have KP_273 := KP_270.wr W_273 (Or.inr sz_b262)
  have O_273 := O_270.wr W_273 g_b262
  have V_273 : Arv Z h_273 b262 k_262 .char (6 : Int32) [(.int v1_263), (.int v1_266), (.int v1_269), (.int v1_272), (.int (0 : Int32)), (.int (0 : Int32))] (.int (0 : Int32)) := by
    have q := Arv.set Ar_273 ck_273 Sz_273 Ng_273 Hs_273 Gs_273 (fits_nar_char _) W_273 3 rfl (Nat.le_of_ble_eq_true rfl)
    rw [nar_u hu_272] at q; exact q
  show Go p e below _ (T_273.setTop (mkF m 48 #[vJ p0, .second, vJ p1, .second, vJ p2, .second, vI p3, vI p4, vR b262, vU, vU, vU, vU, vU, vU, vU, vU, vU, vU, vU, vU, vU, vU, vU, vU, vU, vU, vU] []))
  refine Go.step (fun _ k => XS.aload X_273.here hx rfl (hb hby at_48) rfl rfl k) ?_
  refine Go.step (fun _ k => XS.iconst X_273.here hx rfl (hb hby at_50) k) ?_
  refine Go.step (fun _ k => XS.lload X_273.here hx rfl (hb hby at_51) rfl  k) ?_
  show Go p e below _ (T_273.setTop (mkF m 53 #[vJ p0, .second, vJ p1, .second, vJ p2, .second, vI p3, vI p4, vR b262, vU, vU, vU, vU, vU, vU, vU, vU, vU, vU, vU, vU, vU, vU, vU, vU, vU, vU, vU] [(.long p2), (.int (4 : Int32)), (.ref b262)]))
  refine Go.step (fun _ k => XS.l2i X_273.here hx rfl (hb hby at_53) rfl k) ?_
  show Go p e below _ (T_273.setTop (mkF m 54 #[vJ p0, .second, vJ p1, .second, vJ p2, .second, vI p3, vI p4, vR b262, vU, vU, vU, vU, vU, vU, vU, vU, vU, vU, vU, vU, vU, vU, vU, vU, vU, vU, vU] [(.int p2.toInt32), (.int (4 : Int32)), (.ref b262)]))
  obtain ⟨v_275, T_275, L_275, X_275, hQ_275, st_275⟩ := goS X_273 hx hZ (y := Y_19) hown (wd_1 hw) (wd_2 hw) (wd_3 hw) (wd_4 hw) (by decide) (backOf (W := 2) (rm_pick l Z a0 hw zc vfm (p2.toInt32) h_273 n0 (Nat.le_trans Z0 KP_273.1) hSt O_273) hZ (wd_4 hw) (wd_3 hw) (by decide) (by decide)) e_273 (g := (mkF m 54 #[vJ p0, .second, vJ p1, .second, vJ p2, .second, vI p3, vI p4, vR b262, vU, vU, vU, vU, vU, vU, vU, vU, vU, vU, vU, vU, vU, vU, vU, vU, vU, vU, vU] [(.int p2.toInt32), (.int (4 : Int32)), (.ref b262)])) rfl (by rw [hml]; rfl) (argsL := [(.int p2.toInt32)]) (rest := [(.int (4 : Int32)), (.ref b262)]) rfl (lenOf pd_13 rfl) rfl (by show 2 * 0 + _ ≤ _; exact Nat.le_of_eq rfl) (hb hby at_54) (by decide) (by decide)
  obtain ⟨v1_275, rfl, Nq_275, e_275, u0_275⟩ := hQ_275
  have N_275 := Fr.app N_273 Nq_275
  have hu_275 := u0_275
  refine Go.step st_275 ?_
  show Go p e below _ (T_275.setTop (mkF m 57 #[vJ p0, .second, vJ p1, .second, vJ p2, .second, vI p3, vI p4, vR b262, vU, vU, vU, vU, vU, vU, vU, vU, vU, vU, vU, vU, vU, vU, vU, vU, vU, vU, vU] [(.int v1_275), (.int (4 : Int32)), (.ref b262)]))
  have hh4 := hu_275
  show Go p e below _ (T_275.setTop (mkF m 57 #[vJ p0, .second, vJ p1, .second, vJ p2, .second, vI p3, vI p4, vR b262, vU, vU, vU, vU, vU, vU, vU, vU, vU, vU, vU, vU, vU, vU, vU, vU, vU, vU, vU] [(.int v1_275), (.int (4 : Int32)), (.ref b262)]))
  have cp277 := V_273
  obtain ⟨cl_276, Ar_276, ck_276, Sz_276, Ng_276, Hs_276, Gs_276⟩ := cp277
  have hin_276 : ¬ ((4 : Int32) < 0 ∨ cl_276.slots.size ≤ ((4 : Int32)).toNatClampNeg) := inb_of Sz_276 ⟨by decide, by decide⟩
  obtain ⟨T_276, h_276, X_276, e_276, W_276, st_276⟩ := stC X_275 hx hZ e_275 Ar_276 (j := (4 : Int32)) hin_276 (g := (mkF m 57 #[vJ p0, .second, vJ p1, .second, vJ p2, .second, vI p3, vI p4, vR b262, vU, vU, vU, vU, vU, vU, vU, vU, vU, vU, vU, vU, vU, vU, vU, vU, vU, vU, vU] [(.int v1_275), (.int (4 : Int32)), (.ref b262)])) rfl rfl (hb hby at_57)
  refine Go.step st_276 ?_
  have N_276 := Fr.snoc X_276 N_275 g_b262
  have le_276 : h_273.size ≤ h_276.size := Nat.le_of_eq W_276.size.symm
  have KP_276 := KP_273.wr W_276 (Or.inr sz_b262)
  have O_276 := O_273.wr W_276 g_b262
  have V_276 : Arv Z h_276 b262 k_262 .char (6 : Int32) [(.int v1_263), (.int v1_266), (.int v1_269), (.int v1_272), (.int v1_275), (.int (0 : Int32))] (.int (0 : Int32)) := by
    have q := Arv.set Ar_276 ck_276 Sz_276 Ng_276 Hs_276 Gs_276 (fits_nar_char _) W_276 4 rfl (Nat.le_of_ble_eq_true rfl)
    rw [nar_u hu_275] at q; exact q
  show Go p e below _ (T_276.setTop (mkF m 58 #[vJ p0, .second, vJ p1, .second, vJ p2, .second, vI p3, vI p4, vR b262, vU, vU, vU, vU, vU, vU, vU, vU, vU, vU, vU, vU, vU, vU, vU, vU, vU, vU, vU] []))
  refine Go.step (fun _ k => XS.aload X_276.here hx rfl (hb hby at_58) rfl rfl k) ?_
  refine Go.step (fun _ k => XS.iconst X_276.here hx rfl (hb hby at_60) k) ?_
  refine Go.step (fun _ k => XS.lload X_276.here hx rfl (hb hby at_61) rfl  k) ?_
  refine Go.step (fun _ k => XS.bipush X_276.here hx rfl (hb hby at_63) k) ?_
  show Go p e below _ (T_276.setTop (mkF m 65 #[vJ p0, .second, vJ p1, .second, vJ p2, .second, vI p3, vI p4, vR b262, vU, vU, vU, vU, vU, vU, vU, vU, vU, vU, vU, vU, vU, vU, vU, vU, vU, vU, vU] [(.int (32 : Int32)), (.long p2), (.int (5 : Int32)), (.ref b262)]))
  refine Go.step (fun _ k => XS.lushr X_276.here hx rfl (hb hby at_65) rfl k) ?_
  show Go p e below _ (T_276.setTop (mkF m 66 #[vJ p0, .second, vJ p1, .second, vJ p2, .second, vI p3, vI p4, vR b262, vU, vU, vU, vU, vU, vU, vU, vU, vU, vU, vU, vU, vU, vU, vU, vU, vU, vU, vU] [(.long ((p2.toUInt64 >>> ((32 : Int32) &&& 0x3f).toInt64.toUInt64).toInt64)), (.int (5 : Int32)), (.ref b262)]))
  refine Go.step (fun _ k => XS.l2i X_276.here hx rfl (hb hby at_66) rfl k) ?_
  show Go p e below _ (T_276.setTop (mkF m 67 #[vJ p0, .second, vJ p1, .second, vJ p2, .second, vI p3, vI p4, vR b262, vU, vU, vU, vU, vU, vU, vU, vU, vU, vU, vU, vU, vU, vU, vU, vU, vU, vU, vU] [(.int ((p2.toUInt64 >>> ((32 : Int32) &&& 0x3f).toInt64.toUInt64).toInt64).toInt32), (.int (5 : Int32)), (.ref b262)]))
  obtain ⟨v_278, T_278, L_278, X_278, hQ_278, st_278⟩ := goS X_276 hx hZ (y := Y_19) hown (wd_1 hw) (wd_2 hw) (wd_3 hw) (wd_4 hw) (by decide) (backOf (W := 2) (rm_pick l Z a0 hw zc vfm (((p2.toUInt64 >>> ((32 : Int32) &&& 0x3f).toInt64.toUInt64).toInt64).toInt32) h_276 n0 (Nat.le_trans Z0 KP_276.1) hSt O_276) hZ (wd_4 hw) (wd_3 hw) (by decide) (by decide)) e_276 (g := (mkF m 67 #[vJ p0, .second, vJ p1, .second, vJ p2, .second, vI p3, vI p4, vR b262, vU, vU, vU, vU, vU, vU, vU, vU, vU, vU, vU, vU, vU, vU, vU, vU, vU, vU, vU] [(.int ((p2.toUInt64 >>> ((32 : Int32) &&& 0x3f).toInt64.toUInt64).toInt64).toInt32), (.int (5 : Int32)), (.ref b262)])) rfl (by rw [hml]; rfl) (argsL := [(.int ((p2.toUInt64 >>> ((32 : Int32) &&& 0x3f).toInt64.toUInt64).toInt64).toInt32)]) (rest := [(.int (5 : Int32)), (.ref b262)]) rfl (lenOf pd_13 rfl) rfl (by show 2 * 0 + _ ≤ _; exact Nat.le_of_eq rfl) (hb hby at_67) (by decide) (by decide)
  obtain ⟨v1_278, rfl, Nq_278, e_278, u0_278⟩ := hQ_278
  have N_278 := Fr.app N_276 Nq_278
  have hu_278 := u0_278
  refine Go.step st_278 ?_
  show Go p e below _ (T_278.setTop (mkF m 70 #[vJ p0, .second, vJ p1, .second, vJ p2, .second, vI p3, vI p4, vR b262, vU, vU, vU, vU, vU, vU, vU, vU, vU, vU, vU, vU, vU, vU, vU, vU, vU, vU, vU] [(.int v1_278), (.int (5 : Int32)), (.ref b262)]))
  have hh5 := hu_278
  show Go p e below _ (T_278.setTop (mkF m 70 #[vJ p0, .second, vJ p1, .second, vJ p2, .second, vI p3, vI p4, vR b262, vU, vU, vU, vU, vU, vU, vU, vU, vU, vU, vU, vU, vU, vU, vU, vU, vU, vU, vU] [(.int v1_278), (.int (5 : Int32)), (.ref b262)]))
  have cp280 := V_276
  obtain ⟨cl_279, Ar_279, ck_279, Sz_279, Ng_279, Hs_279, Gs_279⟩ := cp280
  have hin_279 : ¬ ((5 : Int32) < 0 ∨ cl_279.slots.size ≤ ((5 : Int32)).toNatClampNeg) := inb_of Sz_279 ⟨by decide, by decide⟩
  obtain ⟨T_279, h_279, X_279, e_279, W_279, st_279⟩ := stC X_278 hx hZ e_278 Ar_279 (j := (5 : Int32)) hin_279 (g := (mkF m 70 #[vJ p0, .second, vJ p1, .second, vJ p2, .second, vI p3, vI p4, vR b262, vU, vU, vU, vU, vU, vU, vU, vU, vU, vU, vU, vU, vU, vU, vU, vU, vU, vU, vU] [(.int v1_278), (.int (5 : Int32)), (.ref b262)])) rfl rfl (hb hby at_70)
  refine Go.step st_279 ?_
  have N_279 := Fr.snoc X_279 N_278 g_b262
  have le_279 : h_276.size ≤ h_279.size := Nat.le_of_eq W_279.size.symm
  have KP_279 := KP_276.wr W_279 (Or.inr sz_b262)
  have O_279 := O_276.wr W_279 g_b262
  have V_279 : Arv Z h_279 b262 k_262 .char (6 : Int32) [(.int v1_263), (.int v1_266), (.int v1_269), (.int v1_272), (.int v1_275), (.int v1_278)] (.int (0 : Int32)) := by
    have q := Arv.set Ar_279 ck_279 Sz_279 Ng_279 Hs_279 Gs_279 (fits_nar_char _) W_279 5 rfl (Nat.le_of_ble_eq_true rfl)
    rw [nar_u hu_278] at q; exact q
  show Go p e below _ (T_279.setTop (mkF m 71 #[vJ p0, .second, vJ p1, .second, vJ p2, .second, vI p3, vI p4, vR b262, vU, vU, vU, vU, vU, vU, vU, vU, vU, vU, vU, vU, vU, vU, vU, vU, vU, vU, vU] []))
  refine Go.step (fun _ k => XS.iload X_279.here hx rfl (hb hby at_71) rfl  k) ?_
  show Go p e below _ (T_279.setTop (mkF m 73 #[vJ p0, .second, vJ p1, .second, vJ p2, .second, vI p3, vI p4, vR b262, vU, vU, vU, vU, vU, vU, vU, vU, vU, vU, vU, vU, vU, vU, vU, vU, vU, vU, vU] [(.int p3)]))
  refine Go.step (fun _ k => X_279.ldcInt hx hown (mvT hZ (wd_6 hw)) (g := (mkF m 73 #[vJ p0, .second, vJ p1, .second, vJ p2, .second, vI p3, vI p4, vR b262, vU, vU, vU, vU, vU, vU, vU, vU, vU, vU, vU, vU, vU, vU, vU, vU, vU, vU, vU] [(.int p3)])) rfl (hb hby at_73) _ k) ?_
  show Go p e below _ (T_279.setTop (mkF m 75 #[vJ p0, .second, vJ p1, .second, vJ p2, .second, vI p3, vI p4, vR b262, vU, vU, vU, vU, vU, vU, vU, vU, vU, vU, vU, vU, vU, vU, vU, vU, vU, vU, vU] [(.int (2147483647 : Int32)), (.int p3)]))
  refine Go.step (fun _ k => XS.iand X_279.here hx rfl (hb hby at_75) rfl k) ?_
  show Go p e below _ (T_279.setTop (mkF m 76 #[vJ p0, .second, vJ p1, .second, vJ p2, .second, vI p3, vI p4, vR b262, vU, vU, vU, vU, vU, vU, vU, vU, vU, vU, vU, vU, vU, vU, vU, vU, vU, vU, vU] [(.int (p3 &&& (2147483647 : Int32)))]))
  refine Go.step (fun _ k => XS.bipush X_279.here hx rfl (hb hby at_76) k) ?_
  show Go p e below _ (T_279.setTop (mkF m 78 #[vJ p0, .second, vJ p1, .second, vJ p2, .second, vI p3, vI p4, vR b262, vU, vU, vU, vU, vU, vU, vU, vU, vU, vU, vU, vU, vU, vU, vU, vU, vU, vU, vU] [(.int (7 : Int32)), (.int (p3 &&& (2147483647 : Int32)))]))
  refine Go.step (fun _ k => iremM X_279 hx rfl (hb hby at_78) rfl (by decide) k) ?_
  show Go p e below _ (T_279.setTop (mkF m 79 #[vJ p0, .second, vJ p1, .second, vJ p2, .second, vI p3, vI p4, vR b262, vU, vU, vU, vU, vU, vU, vU, vU, vU, vU, vU, vU, vU, vU, vU, vU, vU, vU, vU] [(.int ((p3 &&& (2147483647 : Int32)) % (7 : Int32)))]))
  refine Go.step (fun _ k => XS.istore X_279.here hx rfl (hb hby at_79) rfl (l' := #[vJ p0, .second, vJ p1, .second, vJ p2, .second, vI p3, vI p4, vR b262, vI ((p3 &&& (2147483647 : Int32)) % (7 : Int32)), vU, vU, vU, vU, vU, vU, vU, vU, vU, vU, vU, vU, vU, vU, vU, vU, vU, vU]) rfl k) ?_
  show Go p e below _ (T_279.setTop (mkF m 81 #[vJ p0, .second, vJ p1, .second, vJ p2, .second, vI p3, vI p4, vR b262, vI ((p3 &&& (2147483647 : Int32)) % (7 : Int32)), vU, vU, vU, vU, vU, vU, vU, vU, vU, vU, vU, vU, vU, vU, vU, vU, vU, vU] []))
  obtain ⟨fr, h_fr⟩ : ∃ z, z = ((p3 &&& (2147483647 : Int32)) % (7 : Int32)) := ⟨_, rfl⟩
  rw [← h_fr]
  show Go p e below _ (T_279.setTop (mkF m 81 #[vJ p0, .second, vJ p1, .second, vJ p2, .second, vI p3, vI p4, vR b262, vI fr, vU, vU, vU, vU, vU, vU, vU, vU, vU, vU, vU, vU, vU, vU, vU, vU, vU, vU] []))
  have h_f7 : 0 ≤ fr.toInt ∧ fr.toInt < 7 := by rw [h_fr]; exact rem7 _
  show Go p e below _ (T_279.setTop (mkF m 81 #[vJ p0, .second, vJ p1, .second, vJ p2, .second, vI p3, vI p4, vR b262, vI fr, vU, vU, vU, vU, vU, vU, vU, vU, vU, vU, vU, vU, vU, vU, vU, vU, vU, vU] []))
  refine Go.step (fun _ k => XS.iload X_279.here hx rfl (hb hby at_81) rfl  k) ?_
  refine Go.step (fun _ k => XS.iload X_279.here hx rfl (hb hby at_83) rfl  k) ?_
  show Go p e below _ (T_279.setTop (mkF m 85 #[vJ p0, .second, vJ p1, .second, vJ p2, .second, vI p3, vI p4, vR b262, vI fr, vU, vU, vU, vU, vU, vU, vU, vU, vU, vU, vU, vU, vU, vU, vU, vU, vU, vU] [(.int p4), (.int fr)]))
  refine Go.step (fun _ k => X_279.ldcInt hx hown (mvT hZ (wd_6 hw)) (g := (mkF m 85 #[vJ p0, .second, vJ p1, .second, vJ p2, .second, vI p3, vI p4, vR b262, vI fr, vU, vU, vU, vU, vU, vU, vU, vU, vU, vU, vU, vU, vU, vU, vU, vU, vU, vU] [(.int p4), (.int fr)])) rfl (hb hby at_85) _ k) ?_
  show Go p e below _ (T_279.setTop (mkF m 87 #[vJ p0, .second, vJ p1, .second, vJ p2, .second, vI p3, vI p4, vR b262, vI fr, vU, vU, vU, vU, vU, vU, vU, vU, vU, vU, vU, vU, vU, vU, vU, vU, vU, vU] [(.int (2147483647 : Int32)), (.int p4), (.int fr)]))
  refine Go.step (fun _ k => XS.iand X_279.here hx rfl (hb hby at_87) rfl k) ?_
  show Go p e below _ (T_279.setTop (mkF m 88 #[vJ p0, .second, vJ p1, .second, vJ p2, .second, vI p3, vI p4, vR b262, vI fr, vU, vU, vU, vU, vU, vU, vU, vU, vU, vU, vU, vU, vU, vU, vU, vU, vU, vU] [(.int (p4 &&& (2147483647 : Int32))), (.int fr)]))
  refine Go.step (fun _ k => XS.bipush X_279.here hx rfl (hb hby at_88) k) ?_
  refine Go.step (fun _ k => XS.iload X_279.here hx rfl (hb hby at_90) rfl  k) ?_
  show Go p e below _ (T_279.setTop (mkF m 92 #[vJ p0, .second, vJ p1, .second, vJ p2, .second, vI p3, vI p4, vR b262, vI fr, vU, vU, vU, vU, vU, vU, vU, vU, vU, vU, vU, vU, vU, vU, vU, vU, vU, vU] [(.int fr), (.int (7 : Int32)), (.int (p4 &&& (2147483647 : Int32))), (.int fr)]))
  refine Go.step (fun _ k => XS.isub X_279.here hx rfl (hb hby at_92) rfl k) ?_
  show Go p e below _ (T_279.setTop (mkF m 93 #[vJ p0, .second, vJ p1, .second, vJ p2, .second, vI p3, vI p4, vR b262, vI fr, vU, vU, vU, vU, vU, vU, vU, vU, vU, vU, vU, vU, vU, vU, vU, vU, vU, vU] [(.int ((7 : Int32) - fr)), (.int (p4 &&& (2147483647 : Int32))), (.int fr)]))
  refine Go.step (fun _ k => iremM X_279 hx rfl (hb hby at_93) rfl (sub7_ne h_f7) k) ?_
  show Go p e below _ (T_279.setTop (mkF m 94 #[vJ p0, .second, vJ p1, .second, vJ p2, .second, vI p3, vI p4, vR b262, vI fr, vU, vU, vU, vU, vU, vU, vU, vU, vU, vU, vU, vU, vU, vU, vU, vU, vU, vU] [(.int ((p4 &&& (2147483647 : Int32)) % ((7 : Int32) - fr))), (.int fr)]))
  refine Go.step (fun _ k => XS.iadd X_279.here hx rfl (hb hby at_94) rfl k) ?_
  show Go p e below _ (T_279.setTop (mkF m 95 #[vJ p0, .second, vJ p1, .second, vJ p2, .second, vI p3, vI p4, vR b262, vI fr, vU, vU, vU, vU, vU, vU, vU, vU, vU, vU, vU, vU, vU, vU, vU, vU, vU, vU] [(.int (fr + ((p4 &&& (2147483647 : Int32)) % ((7 : Int32) - fr))))]))
  refine Go.step (fun _ k => XS.istore X_279.here hx rfl (hb hby at_95) rfl (l' := #[vJ p0, .second, vJ p1, .second, vJ p2, .second, vI p3, vI p4, vR b262, vI fr, vI (fr + ((p4 &&& (2147483647 : Int32)) % ((7 : Int32) - fr))), vU, vU, vU, vU, vU, vU, vU, vU, vU, vU, vU, vU, vU, vU, vU, vU, vU]) rfl k) ?_
  show Go p e below _ (T_279.setTop (mkF m 97 #[vJ p0, .second, vJ p1, .second, vJ p2, .second, vI p3, vI p4, vR b262, vI fr, vI (fr + ((p4 &&& (2147483647 : Int32)) % ((7 : Int32) - fr))), vU, vU, vU, vU, vU, vU, vU, vU, vU, vU, vU, vU, vU, vU, vU, vU, vU] []))
  obtain ⟨tt, h_tt⟩ : ∃ z, z = (fr + ((p4 &&& (2147483647 : Int32)) % ((7 : Int32) - fr))) := ⟨_, rfl⟩
  rw [← h_tt]
  show Go p e below _ (T_279.setTop (mkF m 97 #[vJ p0, .second, vJ p1, .second, vJ p2, .second, vI p3, vI p4, vR b262, vI fr, vI tt, vU, vU, vU, vU, vU, vU, vU, vU, vU, vU, vU, vU, vU, vU, vU, vU, vU] []))
  have h_ft : 0 ≤ fr.toInt ∧ fr.toInt ≤ tt.toInt ∧ tt.toInt ≤ 6 := by rw [h_tt]; exact ⟨h_f7.1, to_rng _ h_f7⟩
  show Go p e below _ (T_279.setTop (mkF m 97 #[vJ p0, .second, vJ p1, .second, vJ p2, .second, vI p3, vI p4, vR b262, vI fr, vI tt, vU, vU, vU, vU, vU, vU, vU, vU, vU, vU, vU, vU, vU, vU, vU, vU, vU] []))
  obtain ⟨T_281, h_281, X_281, e_281, E_281, A_281, D_281, Un_281, st_281⟩ := newO X_279 hx hZ hown (wd_7 hw) (wd_8 hw) (wd_9 hw) e_279 (g := (mkF m 97 #[vJ p0, .second, vJ p1, .second, vJ p2, .second, vI p3, vI p4, vR b262, vI fr, vI tt, vU, vU, vU, vU, vU, vU, vU, vU, vU, vU, vU, vU, vU, vU, vU, vU, vU] [])) rfl (hb hby at_97) (by decide) (by decide)
  obtain ⟨b281, q_281⟩ : ∃ z, z = h_279.size := ⟨_, rfl⟩
  rw [← q_281] at A_281 D_281 Un_281 st_281
  refine Go.step st_281 ?_
  have le_281 : h_279.size ≤ h_281.size := E_281.1
  have KP_281 := KP_279.ext E_281
  have O_281 := O_279.ext E_281
  have ge_281 : h_279.size ≤ b281 := Nat.le_of_eq q_281.symm
  have sz_b281 : h0.size ≤ b281 := Nat.le_trans (Nat.le_trans le_262 (Nat.le_trans le_264 (Nat.le_trans le_267 (Nat.le_trans le_270 (Nat.le_trans le_273 (Nat.le_trans le_276 le_279)))))) ge_281
  have g_b281 : n0 ≤ b281 := Nat.le_trans Z0 sz_b281
  have F_281_52 : Fld Z h_281 b281 "java/lang/String" "coder" "B" (.int (0 : Int32)) := D_281 (Or.inr (wd_52 hw)) (ty := .byte) pf_0
  have F_281_54 : Fld Z h_281 b281 "java/lang/String" "value" "[B" .null := D_281 (Or.inr (wd_54 hw)) (ty := (.array .byte)) pf_1
  show Go p e below _ (T_281.setTop (mkF m 100 #[vJ p0, .second, vJ p1, .second, vJ p2, .second, vI p3, vI p4, vR b262, vI fr, vI tt, vU, vU, vU, vU, vU, vU, vU, vU, vU, vU, vU, vU, vU, vU, vU, vU, vU] [(.ref b281)]))
  refine Go.step (fun _ k => XS.dup X_281.here hx rfl (hb hby at_100) rfl rfl k) ?_
  refine Go.step (fun _ k => XS.aload X_281.here hx rfl (hb hby at_101) rfl rfl k) ?_
  show Go p e below _ (T_281.setTop (mkF m 103 #[vJ p0, .second, vJ p1, .second, vJ p2, .second, vI p3, vI p4, vR b262, vI fr, vI tt, vU, vU, vU, vU, vU, vU, vU, vU, vU, vU, vU, vU, vU, vU, vU, vU, vU] [(.ref b262), (.ref b281), (.ref b281)]))
  by_cases hU0 : ¬ (255 : Int32) < v1_263 ∧ ¬ (255 : Int32) < v1_266 ∧ ¬ (255 : Int32) < v1_269 ∧ ¬ (255 : Int32) < v1_272 ∧ ¬ (255 : Int32) < v1_275 ∧ ¬ (255 : Int32) < v1_278
  · skip
    show Go p e below _ (T_281.setTop (mkF m 103 #[vJ p0, .second, vJ p1, .second, vJ p2, .second, vI p3, vI p4, vR b262, vI fr, vI tt, vU, vU, vU, vU, vU, vU, vU, vU, vU, vU, vU, vU, vU, vU, vU, vU, vU] [(.ref b262), (.ref b281), (.ref b281)]))
    have f282 : Arv Z h_281 b262 k_262 .char (6 : Int32) [(.int v1_263), (.int v1_266), (.int v1_269), (.int v1_272), (.int v1_275), (.int v1_278)] (.int (0 : Int32)) := (V_279.ext E_281)
    obtain ⟨v_283, T_283, L_283, X_283, hQ_283, st_283⟩ := goC X_281 hx hZ (y := Y_20) hown rfl (wd_10 hw) (wd_11 hw) (wd_12 hw) (by decide) (backOf (W := 1) (rm_init1L l Z a0 hw zc vfm (b281) (b262) (k_262) (v1_263) (v1_266) (v1_269) (v1_272) (v1_275) (v1_278) h_281 n0 (Nat.le_trans Z0 KP_281.1) A_281 F_281_54 F_281_52 g_b281 f282 hU0.1 hU0.2.1 hU0.2.2.1 hU0.2.2.2.1 hU0.2.2.2.2.1 hU0.2.2.2.2.2 hSt O_281) hZ (wd_12 hw) (wd_9 hw) (by decide) (by decide)) e_281 (g := (mkF m 103 #[vJ p0, .second, vJ p1, .second, vJ p2, .second, vI p3, vI p4, vR b262, vI fr, vI tt, vU, vU, vU, vU, vU, vU, vU, vU, vU, vU, vU, vU, vU, vU, vU, vU, vU] [(.ref b262), (.ref b281), (.ref b281)])) rfl (by rw [hml]; rfl) (a := b281) (argsL := [(.ref b262)]) (rest := [(.ref b281)]) rfl (lenOf pd_16 rfl) rfl (by show 2 * 0 + _ ≤ _; exact Nat.le_of_eq rfl) (hb hby at_103) (by decide) (by decide)
    obtain ⟨t_283, kb_283, rfl, Nq_283, K_283, u0_283, u1_283, u2_283, u3_283⟩ := hQ_283
    have N_283 := Fr.app N_279 Nq_283
    have le_283 : h_281.size ≤ T_283.heap.size := K_283.1
    have KP_283 := KP_281.trans K_283 (allS (Or.inr sz_b281) all0)
    have O_283 := O_281.keep K_283 (allS g_b281 all0)
    refine Go.step st_283 ?_
    show Go p e below _ (T_283.setTop (mkF m 106 #[vJ p0, .second, vJ p1, .second, vJ p2, .second, vI p3, vI p4, vR b262, vI fr, vI tt, vU, vU, vU, vU, vU, vU, vU, vU, vU, vU, vU, vU, vU, vU, vU, vU, vU] [(.ref b281)]))
    refine Go.step (fun _ k => XS.astore X_283.here hx rfl (hb hby at_106) rfl rfl (l' := #[vJ p0, .second, vJ p1, .second, vJ p2, .second, vI p3, vI p4, vR b262, vI fr, vI tt, vR b281, vU, vU, vU, vU, vU, vU, vU, vU, vU, vU, vU, vU, vU, vU, vU, vU]) rfl k) ?_
    show Go p e below _ (T_283.setTop (mkF m 108 #[vJ p0, .second, vJ p1, .second, vJ p2, .second, vI p3, vI p4, vR b262, vI fr, vI tt, vR b281, vU, vU, vU, vU, vU, vU, vU, vU, vU, vU, vU, vU, vU, vU, vU, vU] []))
    refine Go.step (fun _ k => XS.aload X_283.here hx rfl (hb hby at_108) rfl rfl k) ?_
    refine Go.step (fun _ k => XS.iload X_283.here hx rfl (hb hby at_110) rfl  k) ?_
    refine Go.step (fun _ k => XS.iload X_283.here hx rfl (hb hby at_112) rfl  k) ?_
    show Go p e below _ (T_283.setTop (mkF m 114 #[vJ p0, .second, vJ p1, .second, vJ p2, .second, vI p3, vI p4, vR b262, vI fr, vI tt, vR b281, vU, vU, vU, vU, vU, vU, vU, vU, vU, vU, vU, vU, vU, vU, vU, vU] [(.int tt), (.int fr), (.ref b281)]))
    obtain ⟨v_284, T_284, L_284, X_284, hQ_284, st_284⟩ := goS X_283 hx hZ (y := Y_21) hown (wd_55 hw) (wd_56 hw) (wd_57 hw) (wd_58 hw) (by decide) (backOf (W := 0) (rm_rdL l Z a0 hw zc vfm (b281) (t_283) (kb_283) (v1_263) (v1_266) (v1_269) (v1_272) (v1_275) (v1_278) (fr) (tt) T_283.heap n0 (Nat.le_trans Z0 KP_283.1) u0_283 u1_283 u2_283 u3_283 hh0 hh1 hh2 hh3 hh4 hh5 hU0.1 hU0.2.1 hU0.2.2.1 hU0.2.2.2.1 hU0.2.2.2.2.1 hU0.2.2.2.2.2 h_ft hSt O_283) hZ (wd_58 hw) (wd_57 hw) (by decide) (by decide)) rfl (g := (mkF m 114 #[vJ p0, .second, vJ p1, .second, vJ p2, .second, vI p3, vI p4, vR b262, vI fr, vI tt, vR b281, vU, vU, vU, vU, vU, vU, vU, vU, vU, vU, vU, vU, vU, vU, vU, vU] [(.int tt), (.int fr), (.ref b281)])) rfl (by rw [hml]; rfl) (argsL := [(.ref b281), (.int fr), (.int tt)]) (rest := []) rfl (lenOf pd_17 rfl) rfl (by show 2 * 0 + _ ≤ _; exact Nat.le_of_eq rfl) (hb hby at_114) (by decide) (by decide)
    obtain ⟨rfl, Nq_284, e_284⟩ := hQ_284
    have N_284 := Fr.app N_283 Nq_284
    refine Go.step st_284 ?_
    show Go p e below _ (T_284.setTop (mkF m 117 #[vJ p0, .second, vJ p1, .second, vJ p2, .second, vI p3, vI p4, vR b262, vI fr, vI tt, vR b281, vU, vU, vU, vU, vU, vU, vU, vU, vU, vU, vU, vU, vU, vU, vU, vU] [(.long (rdF (sel v1_263 v1_266 v1_269 v1_272 v1_275 v1_278) tt 6 fr (0 : Int64)))]))
    refine Go.step (fun _ k => XS.lstore X_284.here hx rfl (hb hby at_117) rfl (l' := #[vJ p0, .second, vJ p1, .second, vJ p2, .second, vI p3, vI p4, vR b262, vI fr, vI tt, vR b281, vJ (rdF (sel v1_263 v1_266 v1_269 v1_272 v1_275 v1_278) tt 6 fr (0 : Int64)), .second, vU, vU, vU, vU, vU, vU, vU, vU, vU, vU, vU, vU, vU, vU]) rfl k) ?_
    show Go p e below _ (T_284.setTop (mkF m 119 #[vJ p0, .second, vJ p1, .second, vJ p2, .second, vI p3, vI p4, vR b262, vI fr, vI tt, vR b281, vJ (rdF (sel v1_263 v1_266 v1_269 v1_272 v1_275 v1_278) tt 6 fr (0 : Int64)), .second, vU, vU, vU, vU, vU, vU, vU, vU, vU, vU, vU, vU, vU, vU] []))
    refine Go.step (fun _ k => XS.aload X_284.here hx rfl (hb hby at_119) rfl rfl k) ?_
    refine Go.step (fun _ k => XS.iconst X_284.here hx rfl (hb hby at_121) k) ?_
    show Go p e below _ (T_284.setTop (mkF m 122 #[vJ p0, .second, vJ p1, .second, vJ p2, .second, vI p3, vI p4, vR b262, vI fr, vI tt, vR b281, vJ (rdF (sel v1_263 v1_266 v1_269 v1_272 v1_275 v1_278) tt 6 fr (0 : Int64)), .second, vU, vU, vU, vU, vU, vU, vU, vU, vU, vU, vU, vU, vU, vU] [(.int (0 : Int32)), (.ref b262)]))
    have f286 : Arv Z T_283.heap b262 k_262 .char (6 : Int32) [(.int v1_263), (.int v1_266), (.int v1_269), (.int v1_272), (.int v1_275), (.int v1_278)] (.int (0 : Int32)) := (f282.keep K_283 (ninS (Nat.ne_of_lt (Nat.lt_of_lt_of_le V_262.lt (Nat.le_trans (Nat.le_trans le_264 (Nat.le_trans le_267 (Nat.le_trans le_270 (Nat.le_trans le_273 (Nat.le_trans le_276 le_279))))) ge_281))) nin0))
    have cp287 := f286
    obtain ⟨cl_285, Ar_285, -, Sz_285, -, Hs_285, -⟩ := cp287
    have hin_285 : ¬ ((0 : Int32) < 0 ∨ cl_285.slots.size ≤ ((0 : Int32)).toNatClampNeg) := (inb_of Sz_285 ⟨by decide, by decide⟩)
    have hat_285 : cl_285.slots[((0 : Int32)).toNatClampNeg]? = some (.int v1_263) := (Hs_285.at (inb_of Sz_285 ⟨by decide, by decide⟩) rfl)
    refine Go.step (fun _ k => X_284.caload hx (j := (0 : Int32)) (v := (.int v1_263)) (by rw [e_284]; exact Ar_285.1) (State.isArrayOf_alike hZ.alike Ar_285.2.1) Ar_285.2.2 hin_285 hat_285 (g := (mkF m 122 #[vJ p0, .second, vJ p1, .second, vJ p2, .second, vI p3, vI p4, vR b262, vI fr, vI tt, vR b281, vJ (rdF (sel v1_263 v1_266 v1_269 v1_272 v1_275 v1_278) tt 6 fr (0 : Int64)), .second, vU, vU, vU, vU, vU, vU, vU, vU, vU, vU, vU, vU, vU, vU] [(.int (0 : Int32)), (.ref b262)])) rfl rfl (hb hby at_122) _ k) ?_
    show Go p e below _ (T_284.setTop (mkF m 123 #[vJ p0, .second, vJ p1, .second, vJ p2, .second, vI p3, vI p4, vR b262, vI fr, vI tt, vR b281, vJ (rdF (sel v1_263 v1_266 v1_269 v1_272 v1_275 v1_278) tt 6 fr (0 : Int64)), .second, vU, vU, vU, vU, vU, vU, vU, vU, vU, vU, vU, vU, vU, vU] [(.int v1_263)]))
    refine Go.step (fun _ k => XS.iconst X_284.here hx rfl (hb hby at_123) k) ?_
    refine Go.step (fun _ k => XS.iload X_284.here hx rfl (hb hby at_124) rfl  k) ?_
    refine Go.step (fun _ k => XS.iload X_284.here hx rfl (hb hby at_126) rfl  k) ?_
    show Go p e below _ (T_284.setTop (mkF m 128 #[vJ p0, .second, vJ p1, .second, vJ p2, .second, vI p3, vI p4, vR b262, vI fr, vI tt, vR b281, vJ (rdF (sel v1_263 v1_266 v1_269 v1_272 v1_275 v1_278) tt 6 fr (0 : Int64)), .second, vU, vU, vU, vU, vU, vU, vU, vU, vU, vU, vU, vU, vU, vU] [(.int tt), (.int fr), (.int (0 : Int32)), (.int v1_263)]))
    obtain ⟨v_288, T_288, L_288, X_288, hQ_288, st_288⟩ := goS X_284 hx hZ (y := Y_22) hown (wd_87 hw) (wd_88 hw) (wd_3 hw) (wd_89 hw) (by decide) (backOf (W := 0) (rm_tm l Z a0 hw zc vfm (v1_263) ((0 : Int32)) (fr) (tt) T_283.heap n0 (Nat.le_trans Z0 KP_283.1) hSt O_283) hZ (wd_89 hw) (wd_3 hw) (by decide) (by decide)) e_284 (g := (mkF m 128 #[vJ p0, .second, vJ p1, .second, vJ p2, .second, vI p3, vI p4, vR b262, vI fr, vI tt, vR b281, vJ (rdF (sel v1_263 v1_266 v1_269 v1_272 v1_275 v1_278) tt 6 fr (0 : Int64)), .second, vU, vU, vU, vU, vU, vU, vU, vU, vU, vU, vU, vU, vU, vU] [(.int tt), (.int fr), (.int (0 : Int32)), (.int v1_263)])) rfl (by rw [hml]; rfl) (argsL := [(.int v1_263), (.int (0 : Int32)), (.int fr), (.int tt)]) (rest := []) rfl (lenOf pd_18 rfl) rfl (by show 2 * 0 + _ ≤ _; exact Nat.le_of_eq rfl) (hb hby at_128) (by decide) (by decide)
    obtain ⟨rfl, Nq_288, e_288⟩ := hQ_288
    have N_288 := Fr.app N_284 Nq_288
    refine Go.step st_288 ?_
    show Go p e below _ (T_288.setTop (mkF m 131 #[vJ p0, .second, vJ p1, .second, vJ p2, .second, vI p3, vI p4, vR b262, vI fr, vI tt, vR b281, vJ (rdF (sel v1_263 v1_266 v1_269 v1_272 v1_275 v1_278) tt 6 fr (0 : Int64)), .second, vU, vU, vU, vU, vU, vU, vU, vU, vU, vU, vU, vU, vU, vU] [(.long (tm v1_263 (0 : Int32) fr tt))]))
    refine Go.step (fun _ k => XS.lstore X_288.here hx rfl (hb hby at_131) rfl (l' := #[vJ p0, .second, vJ p1, .second, vJ p2, .second, vI p3, vI p4, vR b262, vI fr, vI tt, vR b281, vJ (rdF (sel v1_263 v1_266 v1_269 v1_272 v1_275 v1_278) tt 6 fr (0 : Int64)), .second, vJ (tm v1_263 (0 : Int32) fr tt), .second, vU, vU, vU, vU, vU, vU, vU, vU, vU, vU, vU, vU]) rfl k) ?_
    show Go p e below _ (T_288.setTop (mkF m 133 #[vJ p0, .second, vJ p1, .second, vJ p2, .second, vI p3, vI p4, vR b262, vI fr, vI tt, vR b281, vJ (rdF (sel v1_263 v1_266 v1_269 v1_272 v1_275 v1_278) tt 6 fr (0 : Int64)), .second, vJ (tm v1_263 (0 : Int32) fr tt), .second, vU, vU, vU, vU, vU, vU, vU, vU, vU, vU, vU, vU] []))
    refine Go.step (fun _ k => XS.aload X_288.here hx rfl (hb hby at_133) rfl rfl k) ?_
    refine Go.step (fun _ k => XS.iconst X_288.here hx rfl (hb hby at_135) k) ?_
    show Go p e below _ (T_288.setTop (mkF m 136 #[vJ p0, .second, vJ p1, .second, vJ p2, .second, vI p3, vI p4, vR b262, vI fr, vI tt, vR b281, vJ (rdF (sel v1_263 v1_266 v1_269 v1_272 v1_275 v1_278) tt 6 fr (0 : Int64)), .second, vJ (tm v1_263 (0 : Int32) fr tt), .second, vU, vU, vU, vU, vU, vU, vU, vU, vU, vU, vU, vU] [(.int (1 : Int32)), (.ref b262)]))
    have cp290 := f286
    obtain ⟨cl_289, Ar_289, -, Sz_289, -, Hs_289, -⟩ := cp290
    have hin_289 : ¬ ((1 : Int32) < 0 ∨ cl_289.slots.size ≤ ((1 : Int32)).toNatClampNeg) := (inb_of Sz_289 ⟨by decide, by decide⟩)
    have hat_289 : cl_289.slots[((1 : Int32)).toNatClampNeg]? = some (.int v1_266) := (Hs_289.at (inb_of Sz_289 ⟨by decide, by decide⟩) rfl)
    refine Go.step (fun _ k => X_288.caload hx (j := (1 : Int32)) (v := (.int v1_266)) (by rw [e_288]; exact Ar_289.1) (State.isArrayOf_alike hZ.alike Ar_289.2.1) Ar_289.2.2 hin_289 hat_289 (g := (mkF m 136 #[vJ p0, .second, vJ p1, .second, vJ p2, .second, vI p3, vI p4, vR b262, vI fr, vI tt, vR b281, vJ (rdF (sel v1_263 v1_266 v1_269 v1_272 v1_275 v1_278) tt 6 fr (0 : Int64)), .second, vJ (tm v1_263 (0 : Int32) fr tt), .second, vU, vU, vU, vU, vU, vU, vU, vU, vU, vU, vU, vU] [(.int (1 : Int32)), (.ref b262)])) rfl rfl (hb hby at_136) _ k) ?_
    show Go p e below _ (T_288.setTop (mkF m 137 #[vJ p0, .second, vJ p1, .second, vJ p2, .second, vI p3, vI p4, vR b262, vI fr, vI tt, vR b281, vJ (rdF (sel v1_263 v1_266 v1_269 v1_272 v1_275 v1_278) tt 6 fr (0 : Int64)), .second, vJ (tm v1_263 (0 : Int32) fr tt), .second, vU, vU, vU, vU, vU, vU, vU, vU, vU, vU, vU, vU] [(.int v1_266)]))
    refine Go.step (fun _ k => XS.iconst X_288.here hx rfl (hb hby at_137) k) ?_
    refine Go.step (fun _ k => XS.iload X_288.here hx rfl (hb hby at_138) rfl  k) ?_
    refine Go.step (fun _ k => XS.iload X_288.here hx rfl (hb hby at_140) rfl  k) ?_
    show Go p e below _ (T_288.setTop (mkF m 142 #[vJ p0, .second, vJ p1, .second, vJ p2, .second, vI p3, vI p4, vR b262, vI fr, vI tt, vR b281, vJ (rdF (sel v1_263 v1_266 v1_269 v1_272 v1_275 v1_278) tt 6 fr (0 : Int64)), .second, vJ (tm v1_263 (0 : Int32) fr tt), .second, vU, vU, vU, vU, vU, vU, vU, vU, vU, vU, vU, vU] [(.int tt), (.int fr), (.int (1 : Int32)), (.int v1_266)]))
    obtain ⟨v_291, T_291, L_291, X_291, hQ_291, st_291⟩ := goS X_288 hx hZ (y := Y_22) hown (wd_87 hw) (wd_88 hw) (wd_3 hw) (wd_89 hw) (by decide) (backOf (W := 0) (rm_tm l Z a0 hw zc vfm (v1_266) ((1 : Int32)) (fr) (tt) T_283.heap n0 (Nat.le_trans Z0 KP_283.1) hSt O_283) hZ (wd_89 hw) (wd_3 hw) (by decide) (by decide)) e_288 (g := (mkF m 142 #[vJ p0, .second, vJ p1, .second, vJ p2, .second, vI p3, vI p4, vR b262, vI fr, vI tt, vR b281, vJ (rdF (sel v1_263 v1_266 v1_269 v1_272 v1_275 v1_278) tt 6 fr (0 : Int64)), .second, vJ (tm v1_263 (0 : Int32) fr tt), .second, vU, vU, vU, vU, vU, vU, vU, vU, vU, vU, vU, vU] [(.int tt), (.int fr), (.int (1 : Int32)), (.int v1_266)])) rfl (by rw [hml]; rfl) (argsL := [(.int v1_266), (.int (1 : Int32)), (.int fr), (.int tt)]) (rest := []) rfl (lenOf pd_18 rfl) rfl (by show 2 * 0 + _ ≤ _; exact Nat.le_of_eq rfl) (hb hby at_142) (by decide) (by decide)
    obtain ⟨rfl, Nq_291, e_291⟩ := hQ_291
    have N_291 := Fr.app N_288 Nq_291
    refine Go.step st_291 ?_
    show Go p e below _ (T_291.setTop (mkF m 145 #[vJ p0, .second, vJ p1, .second, vJ p2, .second, vI p3, vI p4, vR b262, vI fr, vI tt, vR b281, vJ (rdF (sel v1_263 v1_266 v1_269 v1_272 v1_275 v1_278) tt 6 fr (0 : Int64)), .second, vJ (tm v1_263 (0 : Int32) fr tt), .second, vU, vU, vU, vU, vU, vU, vU, vU, vU, vU, vU, vU] [(.long (tm v1_266 (1 : Int32) fr tt))]))
    refine Go.step (fun _ k => XS.lstore X_291.here hx rfl (hb hby at_145) rfl (l' := #[vJ p0, .second, vJ p1, .second, vJ p2, .second, vI p3, vI p4, vR b262, vI fr, vI tt, vR b281, vJ (rdF (sel v1_263 v1_266 v1_269 v1_272 v1_275 v1_278) tt 6 fr (0 : Int64)), .second, vJ (tm v1_263 (0 : Int32) fr tt), .second, vJ (tm v1_266 (1 : Int32) fr tt), .second, vU, vU, vU, vU, vU, vU, vU, vU, vU, vU]) rfl k) ?_
    show Go p e below _ (T_291.setTop (mkF m 147 #[vJ p0, .second, vJ p1, .second, vJ p2, .second, vI p3, vI p4, vR b262, vI fr, vI tt, vR b281, vJ (rdF (sel v1_263 v1_266 v1_269 v1_272 v1_275 v1_278) tt 6 fr (0 : Int64)), .second, vJ (tm v1_263 (0 : Int32) fr tt), .second, vJ (tm v1_266 (1 : Int32) fr tt), .second, vU, vU, vU, vU, vU, vU, vU, vU, vU, vU] []))
    refine Go.step (fun _ k => XS.aload X_291.here hx rfl (hb hby at_147) rfl rfl k) ?_
    refine Go.step (fun _ k => XS.iconst X_291.here hx rfl (hb hby at_149) k) ?_
    show Go p e below _ (T_291.setTop (mkF m 150 #[vJ p0, .second, vJ p1, .second, vJ p2, .second, vI p3, vI p4, vR b262, vI fr, vI tt, vR b281, vJ (rdF (sel v1_263 v1_266 v1_269 v1_272 v1_275 v1_278) tt 6 fr (0 : Int64)), .second, vJ (tm v1_263 (0 : Int32) fr tt), .second, vJ (tm v1_266 (1 : Int32) fr tt), .second, vU, vU, vU, vU, vU, vU, vU, vU, vU, vU] [(.int (2 : Int32)), (.ref b262)]))
    have cp293 := f286
    obtain ⟨cl_292, Ar_292, -, Sz_292, -, Hs_292, -⟩ := cp293
    have hin_292 : ¬ ((2 : Int32) < 0 ∨ cl_292.slots.size ≤ ((2 : Int32)).toNatClampNeg) := (inb_of Sz_292 ⟨by decide, by decide⟩)
    have hat_292 : cl_292.slots[((2 : Int32)).toNatClampNeg]? = some (.int v1_269) := (Hs_292.at (inb_of Sz_292 ⟨by decide, by decide⟩) rfl)
    refine Go.step (fun _ k => X_291.caload hx (j := (2 : Int32)) (v := (.int v1_269)) (by rw [e_291]; exact Ar_292.1) (State.isArrayOf_alike hZ.alike Ar_292.2.1) Ar_292.2.2 hin_292 hat_292 (g := (mkF m 150 #[vJ p0, .second, vJ p1, .second, vJ p2, .second, vI p3, vI p4, vR b262, vI fr, vI tt, vR b281, vJ (rdF (sel v1_263 v1_266 v1_269 v1_272 v1_275 v1_278) tt 6 fr (0 : Int64)), .second, vJ (tm v1_263 (0 : Int32) fr tt), .second, vJ (tm v1_266 (1 : Int32) fr tt), .second, vU, vU, vU, vU, vU, vU, vU, vU, vU, vU] [(.int (2 : Int32)), (.ref b262)])) rfl rfl (hb hby at_150) _ k) ?_
    show Go p e below _ (T_291.setTop (mkF m 151 #[vJ p0, .second, vJ p1, .second, vJ p2, .second, vI p3, vI p4, vR b262, vI fr, vI tt, vR b281, vJ (rdF (sel v1_263 v1_266 v1_269 v1_272 v1_275 v1_278) tt 6 fr (0 : Int64)), .second, vJ (tm v1_263 (0 : Int32) fr tt), .second, vJ (tm v1_266 (1 : Int32) fr tt), .second, vU, vU, vU, vU, vU, vU, vU, vU, vU, vU] [(.int v1_269)]))
    refine Go.step (fun _ k => XS.iconst X_291.here hx rfl (hb hby at_151) k) ?_
    refine Go.step (fun _ k => XS.iload X_291.here hx rfl (hb hby at_152) rfl  k) ?_
    refine Go.step (fun _ k => XS.iload X_291.here hx rfl (hb hby at_154) rfl  k) ?_
    show Go p e below _ (T_291.setTop (mkF m 156 #[vJ p0, .second, vJ p1, .second, vJ p2, .second, vI p3, vI p4, vR b262, vI fr, vI tt, vR b281, vJ (rdF (sel v1_263 v1_266 v1_269 v1_272 v1_275 v1_278) tt 6 fr (0 : Int64)), .second, vJ (tm v1_263 (0 : Int32) fr tt), .second, vJ (tm v1_266 (1 : Int32) fr tt), .second, vU, vU, vU, vU, vU, vU, vU, vU, vU, vU] [(.int tt), (.int fr), (.int (2 : Int32)), (.int v1_269)]))
    obtain ⟨v_294, T_294, L_294, X_294, hQ_294, st_294⟩ := goS X_291 hx hZ (y := Y_22) hown (wd_87 hw) (wd_88 hw) (wd_3 hw) (wd_89 hw) (by decide) (backOf (W := 0) (rm_tm l Z a0 hw zc vfm (v1_269) ((2 : Int32)) (fr) (tt) T_283.heap n0 (Nat.le_trans Z0 KP_283.1) hSt O_283) hZ (wd_89 hw) (wd_3 hw) (by decide) (by decide)) e_291 (g := (mkF m 156 #[vJ p0, .second, vJ p1, .second, vJ p2, .second, vI p3, vI p4, vR b262, vI fr, vI tt, vR b281, vJ (rdF (sel v1_263 v1_266 v1_269 v1_272 v1_275 v1_278) tt 6 fr (0 : Int64)), .second, vJ (tm v1_263 (0 : Int32) fr tt), .second, vJ (tm v1_266 (1 : Int32) fr tt), .second, vU, vU, vU, vU, vU, vU, vU, vU, vU, vU] [(.int tt), (.int fr), (.int (2 : Int32)), (.int v1_269)])) rfl (by rw [hml]; rfl) (argsL := [(.int v1_269), (.int (2 : Int32)), (.int fr), (.int tt)]) (rest := []) rfl (lenOf pd_18 rfl) rfl (by show 2 * 0 + _ ≤ _; exact Nat.le_of_eq rfl) (hb hby at_156) (by decide) (by decide)
    obtain ⟨rfl, Nq_294, e_294⟩ := hQ_294
    have N_294 := Fr.app N_291 Nq_294
    refine Go.step st_294 ?_
    show Go p e below _ (T_294.setTop (mkF m 159 #[vJ p0, .second, vJ p1, .second, vJ p2, .second, vI p3, vI p4, vR b262, vI fr, vI tt, vR b281, vJ (rdF (sel v1_263 v1_266 v1_269 v1_272 v1_275 v1_278) tt 6 fr (0 : Int64)), .second, vJ (tm v1_263 (0 : Int32) fr tt), .second, vJ (tm v1_266 (1 : Int32) fr tt), .second, vU, vU, vU, vU, vU, vU, vU, vU, vU, vU] [(.long (tm v1_269 (2 : Int32) fr tt))]))
    refine Go.step (fun _ k => XS.lstore X_294.here hx rfl (hb hby at_159) rfl (l' := #[vJ p0, .second, vJ p1, .second, vJ p2, .second, vI p3, vI p4, vR b262, vI fr, vI tt, vR b281, vJ (rdF (sel v1_263 v1_266 v1_269 v1_272 v1_275 v1_278) tt 6 fr (0 : Int64)), .second, vJ (tm v1_263 (0 : Int32) fr tt), .second, vJ (tm v1_266 (1 : Int32) fr tt), .second, vJ (tm v1_269 (2 : Int32) fr tt), .second, vU, vU, vU, vU, vU, vU, vU, vU]) rfl k) ?_
    show Go p e below _ (T_294.setTop (mkF m 161 #[vJ p0, .second, vJ p1, .second, vJ p2, .second, vI p3, vI p4, vR b262, vI fr, vI tt, vR b281, vJ (rdF (sel v1_263 v1_266 v1_269 v1_272 v1_275 v1_278) tt 6 fr (0 : Int64)), .second, vJ (tm v1_263 (0 : Int32) fr tt), .second, vJ (tm v1_266 (1 : Int32) fr tt), .second, vJ (tm v1_269 (2 : Int32) fr tt), .second, vU, vU, vU, vU, vU, vU, vU, vU] []))
    refine Go.step (fun _ k => XS.aload X_294.here hx rfl (hb hby at_161) rfl rfl k) ?_
    refine Go.step (fun _ k => XS.iconst X_294.here hx rfl (hb hby at_163) k) ?_
    show Go p e below _ (T_294.setTop (mkF m 164 #[vJ p0, .second, vJ p1, .second, vJ p2, .second, vI p3, vI p4, vR b262, vI fr, vI tt, vR b281, vJ (rdF (sel v1_263 v1_266 v1_269 v1_272 v1_275 v1_278) tt 6 fr (0 : Int64)), .second, vJ (tm v1_263 (0 : Int32) fr tt), .second, vJ (tm v1_266 (1 : Int32) fr tt), .second, vJ (tm v1_269 (2 : Int32) fr tt), .second, vU, vU, vU, vU, vU, vU, vU, vU] [(.int (3 : Int32)), (.ref b262)]))
    have cp296 := f286
    obtain ⟨cl_295, Ar_295, -, Sz_295, -, Hs_295, -⟩ := cp296
    have hin_295 : ¬ ((3 : Int32) < 0 ∨ cl_295.slots.size ≤ ((3 : Int32)).toNatClampNeg) := (inb_of Sz_295 ⟨by decide, by decide⟩)
    have hat_295 : cl_295.slots[((3 : Int32)).toNatClampNeg]? = some (.int v1_272) := (Hs_295.at (inb_of Sz_295 ⟨by decide, by decide⟩) rfl)
    refine Go.step (fun _ k => X_294.caload hx (j := (3 : Int32)) (v := (.int v1_272)) (by rw [e_294]; exact Ar_295.1) (State.isArrayOf_alike hZ.alike Ar_295.2.1) Ar_295.2.2 hin_295 hat_295 (g := (mkF m 164 #[vJ p0, .second, vJ p1, .second, vJ p2, .second, vI p3, vI p4, vR b262, vI fr, vI tt, vR b281, vJ (rdF (sel v1_263 v1_266 v1_269 v1_272 v1_275 v1_278) tt 6 fr (0 : Int64)), .second, vJ (tm v1_263 (0 : Int32) fr tt), .second, vJ (tm v1_266 (1 : Int32) fr tt), .second, vJ (tm v1_269 (2 : Int32) fr tt), .second, vU, vU, vU, vU, vU, vU, vU, vU] [(.int (3 : Int32)), (.ref b262)])) rfl rfl (hb hby at_164) _ k) ?_
    show Go p e below _ (T_294.setTop (mkF m 165 #[vJ p0, .second, vJ p1, .second, vJ p2, .second, vI p3, vI p4, vR b262, vI fr, vI tt, vR b281, vJ (rdF (sel v1_263 v1_266 v1_269 v1_272 v1_275 v1_278) tt 6 fr (0 : Int64)), .second, vJ (tm v1_263 (0 : Int32) fr tt), .second, vJ (tm v1_266 (1 : Int32) fr tt), .second, vJ (tm v1_269 (2 : Int32) fr tt), .second, vU, vU, vU, vU, vU, vU, vU, vU] [(.int v1_272)]))
    refine Go.step (fun _ k => XS.iconst X_294.here hx rfl (hb hby at_165) k) ?_
    refine Go.step (fun _ k => XS.iload X_294.here hx rfl (hb hby at_166) rfl  k) ?_
    refine Go.step (fun _ k => XS.iload X_294.here hx rfl (hb hby at_168) rfl  k) ?_
    show Go p e below _ (T_294.setTop (mkF m 170 #[vJ p0, .second, vJ p1, .second, vJ p2, .second, vI p3, vI p4, vR b262, vI fr, vI tt, vR b281, vJ (rdF (sel v1_263 v1_266 v1_269 v1_272 v1_275 v1_278) tt 6 fr (0 : Int64)), .second, vJ (tm v1_263 (0 : Int32) fr tt), .second, vJ (tm v1_266 (1 : Int32) fr tt), .second, vJ (tm v1_269 (2 : Int32) fr tt), .second, vU, vU, vU, vU, vU, vU, vU, vU] [(.int tt), (.int fr), (.int (3 : Int32)), (.int v1_272)]))
    obtain ⟨v_297, T_297, L_297, X_297, hQ_297, st_297⟩ := goS X_294 hx hZ (y := Y_22) hown (wd_87 hw) (wd_88 hw) (wd_3 hw) (wd_89 hw) (by decide) (backOf (W := 0) (rm_tm l Z a0 hw zc vfm (v1_272) ((3 : Int32)) (fr) (tt) T_283.heap n0 (Nat.le_trans Z0 KP_283.1) hSt O_283) hZ (wd_89 hw) (wd_3 hw) (by decide) (by decide)) e_294 (g := (mkF m 170 #[vJ p0, .second, vJ p1, .second, vJ p2, .second, vI p3, vI p4, vR b262, vI fr, vI tt, vR b281, vJ (rdF (sel v1_263 v1_266 v1_269 v1_272 v1_275 v1_278) tt 6 fr (0 : Int64)), .second, vJ (tm v1_263 (0 : Int32) fr tt), .second, vJ (tm v1_266 (1 : Int32) fr tt), .second, vJ (tm v1_269 (2 : Int32) fr tt), .second, vU, vU, vU, vU, vU, vU, vU, vU] [(.int tt), (.int fr), (.int (3 : Int32)), (.int v1_272)])) rfl (by rw [hml]; rfl) (argsL := [(.int v1_272), (.int (3 : Int32)), (.int fr), (.int tt)]) (rest := []) rfl (lenOf pd_18 rfl) rfl (by show 2 * 0 + _ ≤ _; exact Nat.le_of_eq rfl) (hb hby at_170) (by decide) (by decide)
    obtain ⟨rfl, Nq_297, e_297⟩ := hQ_297
    have N_297 := Fr.app N_294 Nq_297
    refine Go.step st_297 ?_
    show Go p e below _ (T_297.setTop (mkF m 173 #[vJ p0, .second, vJ p1, .second, vJ p2, .second, vI p3, vI p4, vR b262, vI fr, vI tt, vR b281, vJ (rdF (sel v1_263 v1_266 v1_269 v1_272 v1_275 v1_278) tt 6 fr (0 : Int64)), .second, vJ (tm v1_263 (0 : Int32) fr tt), .second, vJ (tm v1_266 (1 : Int32) fr tt), .second, vJ (tm v1_269 (2 : Int32) fr tt), .second, vU, vU, vU, vU, vU, vU, vU, vU] [(.long (tm v1_272 (3 : Int32) fr tt))]))
    refine Go.step (fun _ k => XS.lstore X_297.here hx rfl (hb hby at_173) rfl (l' := #[vJ p0, .second, vJ p1, .second, vJ p2, .second, vI p3, vI p4, vR b262, vI fr, vI tt, vR b281, vJ (rdF (sel v1_263 v1_266 v1_269 v1_272 v1_275 v1_278) tt 6 fr (0 : Int64)), .second, vJ (tm v1_263 (0 : Int32) fr tt), .second, vJ (tm v1_266 (1 : Int32) fr tt), .second, vJ (tm v1_269 (2 : Int32) fr tt), .second, vJ (tm v1_272 (3 : Int32) fr tt), .second, vU, vU, vU, vU, vU, vU]) rfl k) ?_
    show Go p e below _ (T_297.setTop (mkF m 175 #[vJ p0, .second, vJ p1, .second, vJ p2, .second, vI p3, vI p4, vR b262, vI fr, vI tt, vR b281, vJ (rdF (sel v1_263 v1_266 v1_269 v1_272 v1_275 v1_278) tt 6 fr (0 : Int64)), .second, vJ (tm v1_263 (0 : Int32) fr tt), .second, vJ (tm v1_266 (1 : Int32) fr tt), .second, vJ (tm v1_269 (2 : Int32) fr tt), .second, vJ (tm v1_272 (3 : Int32) fr tt), .second, vU, vU, vU, vU, vU, vU] []))
    refine Go.step (fun _ k => XS.aload X_297.here hx rfl (hb hby at_175) rfl rfl k) ?_
    refine Go.step (fun _ k => XS.iconst X_297.here hx rfl (hb hby at_177) k) ?_
    show Go p e below _ (T_297.setTop (mkF m 178 #[vJ p0, .second, vJ p1, .second, vJ p2, .second, vI p3, vI p4, vR b262, vI fr, vI tt, vR b281, vJ (rdF (sel v1_263 v1_266 v1_269 v1_272 v1_275 v1_278) tt 6 fr (0 : Int64)), .second, vJ (tm v1_263 (0 : Int32) fr tt), .second, vJ (tm v1_266 (1 : Int32) fr tt), .second, vJ (tm v1_269 (2 : Int32) fr tt), .second, vJ (tm v1_272 (3 : Int32) fr tt), .second, vU, vU, vU, vU, vU, vU] [(.int (4 : Int32)), (.ref b262)]))
    have cp299 := f286
    obtain ⟨cl_298, Ar_298, -, Sz_298, -, Hs_298, -⟩ := cp299
    have hin_298 : ¬ ((4 : Int32) < 0 ∨ cl_298.slots.size ≤ ((4 : Int32)).toNatClampNeg) := (inb_of Sz_298 ⟨by decide, by decide⟩)
    have hat_298 : cl_298.slots[((4 : Int32)).toNatClampNeg]? = some (.int v1_275) := (Hs_298.at (inb_of Sz_298 ⟨by decide, by decide⟩) rfl)
    refine Go.step (fun _ k => X_297.caload hx (j := (4 : Int32)) (v := (.int v1_275)) (by rw [e_297]; exact Ar_298.1) (State.isArrayOf_alike hZ.alike Ar_298.2.1) Ar_298.2.2 hin_298 hat_298 (g := (mkF m 178 #[vJ p0, .second, vJ p1, .second, vJ p2, .second, vI p3, vI p4, vR b262, vI fr, vI tt, vR b281, vJ (rdF (sel v1_263 v1_266 v1_269 v1_272 v1_275 v1_278) tt 6 fr (0 : Int64)), .second, vJ (tm v1_263 (0 : Int32) fr tt), .second, vJ (tm v1_266 (1 : Int32) fr tt), .second, vJ (tm v1_269 (2 : Int32) fr tt), .second, vJ (tm v1_272 (3 : Int32) fr tt), .second, vU, vU, vU, vU, vU, vU] [(.int (4 : Int32)), (.ref b262)])) rfl rfl (hb hby at_178) _ k) ?_
    show Go p e below _ (T_297.setTop (mkF m 179 #[vJ p0, .second, vJ p1, .second, vJ p2, .second, vI p3, vI p4, vR b262, vI fr, vI tt, vR b281, vJ (rdF (sel v1_263 v1_266 v1_269 v1_272 v1_275 v1_278) tt 6 fr (0 : Int64)), .second, vJ (tm v1_263 (0 : Int32) fr tt), .second, vJ (tm v1_266 (1 : Int32) fr tt), .second, vJ (tm v1_269 (2 : Int32) fr tt), .second, vJ (tm v1_272 (3 : Int32) fr tt), .second, vU, vU, vU, vU, vU, vU] [(.int v1_275)]))
    refine Go.step (fun _ k => XS.iconst X_297.here hx rfl (hb hby at_179) k) ?_
    refine Go.step (fun _ k => XS.iload X_297.here hx rfl (hb hby at_180) rfl  k) ?_
    refine Go.step (fun _ k => XS.iload X_297.here hx rfl (hb hby at_182) rfl  k) ?_
    show Go p e below _ (T_297.setTop (mkF m 184 #[vJ p0, .second, vJ p1, .second, vJ p2, .second, vI p3, vI p4, vR b262, vI fr, vI tt, vR b281, vJ (rdF (sel v1_263 v1_266 v1_269 v1_272 v1_275 v1_278) tt 6 fr (0 : Int64)), .second, vJ (tm v1_263 (0 : Int32) fr tt), .second, vJ (tm v1_266 (1 : Int32) fr tt), .second, vJ (tm v1_269 (2 : Int32) fr tt), .second, vJ (tm v1_272 (3 : Int32) fr tt), .second, vU, vU, vU, vU, vU, vU] [(.int tt), (.int fr), (.int (4 : Int32)), (.int v1_275)]))
    obtain ⟨v_300, T_300, L_300, X_300, hQ_300, st_300⟩ := goS X_297 hx hZ (y := Y_22) hown (wd_87 hw) (wd_88 hw) (wd_3 hw) (wd_89 hw) (by decide) (backOf (W := 0) (rm_tm l Z a0 hw zc vfm (v1_275) ((4 : Int32)) (fr) (tt) T_283.heap n0 (Nat.le_trans Z0 KP_283.1) hSt O_283) hZ (wd_89 hw) (wd_3 hw) (by decide) (by decide)) e_297 (g := (mkF m 184 #[vJ p0, .second, vJ p1, .second, vJ p2, .second, vI p3, vI p4, vR b262, vI fr, vI tt, vR b281, vJ (rdF (sel v1_263 v1_266 v1_269 v1_272 v1_275 v1_278) tt 6 fr (0 : Int64)), .second, vJ (tm v1_263 (0 : Int32) fr tt), .second, vJ (tm v1_266 (1 : Int32) fr tt), .second, vJ (tm v1_269 (2 : Int32) fr tt), .second, vJ (tm v1_272 (3 : Int32) fr tt), .second, vU, vU, vU, vU, vU, vU] [(.int tt), (.int fr), (.int (4 : Int32)), (.int v1_275)])) rfl (by rw [hml]; rfl) (argsL := [(.int v1_275), (.int (4 : Int32)), (.int fr), (.int tt)]) (rest := []) rfl (lenOf pd_18 rfl) rfl (by show 2 * 0 + _ ≤ _; exact Nat.le_of_eq rfl) (hb hby at_184) (by decide) (by decide)
    obtain ⟨rfl, Nq_300, e_300⟩ := hQ_300
    have N_300 := Fr.app N_297 Nq_300
    refine Go.step st_300 ?_
    show Go p e below _ (T_300.setTop (mkF m 187 #[vJ p0, .second, vJ p1, .second, vJ p2, .second, vI p3, vI p4, vR b262, vI fr, vI tt, vR b281, vJ (rdF (sel v1_263 v1_266 v1_269 v1_272 v1_275 v1_278) tt 6 fr (0 : Int64)), .second, vJ (tm v1_263 (0 : Int32) fr tt), .second, vJ (tm v1_266 (1 : Int32) fr tt), .second, vJ (tm v1_269 (2 : Int32) fr tt), .second, vJ (tm v1_272 (3 : Int32) fr tt), .second, vU, vU, vU, vU, vU, vU] [(.long (tm v1_275 (4 : Int32) fr tt))]))
    refine Go.step (fun _ k => XS.lstore X_300.here hx rfl (hb hby at_187) rfl (l' := #[vJ p0, .second, vJ p1, .second, vJ p2, .second, vI p3, vI p4, vR b262, vI fr, vI tt, vR b281, vJ (rdF (sel v1_263 v1_266 v1_269 v1_272 v1_275 v1_278) tt 6 fr (0 : Int64)), .second, vJ (tm v1_263 (0 : Int32) fr tt), .second, vJ (tm v1_266 (1 : Int32) fr tt), .second, vJ (tm v1_269 (2 : Int32) fr tt), .second, vJ (tm v1_272 (3 : Int32) fr tt), .second, vJ (tm v1_275 (4 : Int32) fr tt), .second, vU, vU, vU, vU]) rfl k) ?_
    show Go p e below _ (T_300.setTop (mkF m 189 #[vJ p0, .second, vJ p1, .second, vJ p2, .second, vI p3, vI p4, vR b262, vI fr, vI tt, vR b281, vJ (rdF (sel v1_263 v1_266 v1_269 v1_272 v1_275 v1_278) tt 6 fr (0 : Int64)), .second, vJ (tm v1_263 (0 : Int32) fr tt), .second, vJ (tm v1_266 (1 : Int32) fr tt), .second, vJ (tm v1_269 (2 : Int32) fr tt), .second, vJ (tm v1_272 (3 : Int32) fr tt), .second, vJ (tm v1_275 (4 : Int32) fr tt), .second, vU, vU, vU, vU] []))
    refine Go.step (fun _ k => XS.aload X_300.here hx rfl (hb hby at_189) rfl rfl k) ?_
    refine Go.step (fun _ k => XS.iconst X_300.here hx rfl (hb hby at_191) k) ?_
    show Go p e below _ (T_300.setTop (mkF m 192 #[vJ p0, .second, vJ p1, .second, vJ p2, .second, vI p3, vI p4, vR b262, vI fr, vI tt, vR b281, vJ (rdF (sel v1_263 v1_266 v1_269 v1_272 v1_275 v1_278) tt 6 fr (0 : Int64)), .second, vJ (tm v1_263 (0 : Int32) fr tt), .second, vJ (tm v1_266 (1 : Int32) fr tt), .second, vJ (tm v1_269 (2 : Int32) fr tt), .second, vJ (tm v1_272 (3 : Int32) fr tt), .second, vJ (tm v1_275 (4 : Int32) fr tt), .second, vU, vU, vU, vU] [(.int (5 : Int32)), (.ref b262)]))
    have cp302 := f286
    obtain ⟨cl_301, Ar_301, -, Sz_301, -, Hs_301, -⟩ := cp302
    have hin_301 : ¬ ((5 : Int32) < 0 ∨ cl_301.slots.size ≤ ((5 : Int32)).toNatClampNeg) := (inb_of Sz_301 ⟨by decide, by decide⟩)
    have hat_301 : cl_301.slots[((5 : Int32)).toNatClampNeg]? = some (.int v1_278) := (Hs_301.at (inb_of Sz_301 ⟨by decide, by decide⟩) rfl)
    refine Go.step (fun _ k => X_300.caload hx (j := (5 : Int32)) (v := (.int v1_278)) (by rw [e_300]; exact Ar_301.1) (State.isArrayOf_alike hZ.alike Ar_301.2.1) Ar_301.2.2 hin_301 hat_301 (g := (mkF m 192 #[vJ p0, .second, vJ p1, .second, vJ p2, .second, vI p3, vI p4, vR b262, vI fr, vI tt, vR b281, vJ (rdF (sel v1_263 v1_266 v1_269 v1_272 v1_275 v1_278) tt 6 fr (0 : Int64)), .second, vJ (tm v1_263 (0 : Int32) fr tt), .second, vJ (tm v1_266 (1 : Int32) fr tt), .second, vJ (tm v1_269 (2 : Int32) fr tt), .second, vJ (tm v1_272 (3 : Int32) fr tt), .second, vJ (tm v1_275 (4 : Int32) fr tt), .second, vU, vU, vU, vU] [(.int (5 : Int32)), (.ref b262)])) rfl rfl (hb hby at_192) _ k) ?_
    show Go p e below _ (T_300.setTop (mkF m 193 #[vJ p0, .second, vJ p1, .second, vJ p2, .second, vI p3, vI p4, vR b262, vI fr, vI tt, vR b281, vJ (rdF (sel v1_263 v1_266 v1_269 v1_272 v1_275 v1_278) tt 6 fr (0 : Int64)), .second, vJ (tm v1_263 (0 : Int32) fr tt), .second, vJ (tm v1_266 (1 : Int32) fr tt), .second, vJ (tm v1_269 (2 : Int32) fr tt), .second, vJ (tm v1_272 (3 : Int32) fr tt), .second, vJ (tm v1_275 (4 : Int32) fr tt), .second, vU, vU, vU, vU] [(.int v1_278)]))
    refine Go.step (fun _ k => XS.iconst X_300.here hx rfl (hb hby at_193) k) ?_
    refine Go.step (fun _ k => XS.iload X_300.here hx rfl (hb hby at_194) rfl  k) ?_
    refine Go.step (fun _ k => XS.iload X_300.here hx rfl (hb hby at_196) rfl  k) ?_
    show Go p e below _ (T_300.setTop (mkF m 198 #[vJ p0, .second, vJ p1, .second, vJ p2, .second, vI p3, vI p4, vR b262, vI fr, vI tt, vR b281, vJ (rdF (sel v1_263 v1_266 v1_269 v1_272 v1_275 v1_278) tt 6 fr (0 : Int64)), .second, vJ (tm v1_263 (0 : Int32) fr tt), .second, vJ (tm v1_266 (1 : Int32) fr tt), .second, vJ (tm v1_269 (2 : Int32) fr tt), .second, vJ (tm v1_272 (3 : Int32) fr tt), .second, vJ (tm v1_275 (4 : Int32) fr tt), .second, vU, vU, vU, vU] [(.int tt), (.int fr), (.int (5 : Int32)), (.int v1_278)]))
    obtain ⟨v_303, T_303, L_303, X_303, hQ_303, st_303⟩ := goS X_300 hx hZ (y := Y_22) hown (wd_87 hw) (wd_88 hw) (wd_3 hw) (wd_89 hw) (by decide) (backOf (W := 0) (rm_tm l Z a0 hw zc vfm (v1_278) ((5 : Int32)) (fr) (tt) T_283.heap n0 (Nat.le_trans Z0 KP_283.1) hSt O_283) hZ (wd_89 hw) (wd_3 hw) (by decide) (by decide)) e_300 (g := (mkF m 198 #[vJ p0, .second, vJ p1, .second, vJ p2, .second, vI p3, vI p4, vR b262, vI fr, vI tt, vR b281, vJ (rdF (sel v1_263 v1_266 v1_269 v1_272 v1_275 v1_278) tt 6 fr (0 : Int64)), .second, vJ (tm v1_263 (0 : Int32) fr tt), .second, vJ (tm v1_266 (1 : Int32) fr tt), .second, vJ (tm v1_269 (2 : Int32) fr tt), .second, vJ (tm v1_272 (3 : Int32) fr tt), .second, vJ (tm v1_275 (4 : Int32) fr tt), .second, vU, vU, vU, vU] [(.int tt), (.int fr), (.int (5 : Int32)), (.int v1_278)])) rfl (by rw [hml]; rfl) (argsL := [(.int v1_278), (.int (5 : Int32)), (.int fr), (.int tt)]) (rest := []) rfl (lenOf pd_18 rfl) rfl (by show 2 * 0 + _ ≤ _; exact Nat.le_of_eq rfl) (hb hby at_198) (by decide) (by decide)
    obtain ⟨rfl, Nq_303, e_303⟩ := hQ_303
    have N_303 := Fr.app N_300 Nq_303
    refine Go.step st_303 ?_
    show Go p e below _ (T_303.setTop (mkF m 201 #[vJ p0, .second, vJ p1, .second, vJ p2, .second, vI p3, vI p4, vR b262, vI fr, vI tt, vR b281, vJ (rdF (sel v1_263 v1_266 v1_269 v1_272 v1_275 v1_278) tt 6 fr (0 : Int64)), .second, vJ (tm v1_263 (0 : Int32) fr tt), .second, vJ (tm v1_266 (1 : Int32) fr tt), .second, vJ (tm v1_269 (2 : Int32) fr tt), .second, vJ (tm v1_272 (3 : Int32) fr tt), .second, vJ (tm v1_275 (4 : Int32) fr tt), .second, vU, vU, vU, vU] [(.long (tm v1_278 (5 : Int32) fr tt))]))
    refine Go.step (fun _ k => XS.lstore X_303.here hx rfl (hb hby at_201) rfl (l' := #[vJ p0, .second, vJ p1, .second, vJ p2, .second, vI p3, vI p4, vR b262, vI fr, vI tt, vR b281, vJ (rdF (sel v1_263 v1_266 v1_269 v1_272 v1_275 v1_278) tt 6 fr (0 : Int64)), .second, vJ (tm v1_263 (0 : Int32) fr tt), .second, vJ (tm v1_266 (1 : Int32) fr tt), .second, vJ (tm v1_269 (2 : Int32) fr tt), .second, vJ (tm v1_272 (3 : Int32) fr tt), .second, vJ (tm v1_275 (4 : Int32) fr tt), .second, vJ (tm v1_278 (5 : Int32) fr tt), .second, vU, vU]) rfl k) ?_
    show Go p e below _ (T_303.setTop (mkF m 203 #[vJ p0, .second, vJ p1, .second, vJ p2, .second, vI p3, vI p4, vR b262, vI fr, vI tt, vR b281, vJ (rdF (sel v1_263 v1_266 v1_269 v1_272 v1_275 v1_278) tt 6 fr (0 : Int64)), .second, vJ (tm v1_263 (0 : Int32) fr tt), .second, vJ (tm v1_266 (1 : Int32) fr tt), .second, vJ (tm v1_269 (2 : Int32) fr tt), .second, vJ (tm v1_272 (3 : Int32) fr tt), .second, vJ (tm v1_275 (4 : Int32) fr tt), .second, vJ (tm v1_278 (5 : Int32) fr tt), .second, vU, vU] []))
    refine Go.step (fun _ k => XS.lload X_303.here hx rfl (hb hby at_203) rfl  k) ?_
    refine Go.step (fun _ k => XS.lconst X_303.here hx rfl (hb hby at_205) k) ?_
    show Go p e below _ (T_303.setTop (mkF m 206 #[vJ p0, .second, vJ p1, .second, vJ p2, .second, vI p3, vI p4, vR b262, vI fr, vI tt, vR b281, vJ (rdF (sel v1_263 v1_266 v1_269 v1_272 v1_275 v1_278) tt 6 fr (0 : Int64)), .second, vJ (tm v1_263 (0 : Int32) fr tt), .second, vJ (tm v1_266 (1 : Int32) fr tt), .second, vJ (tm v1_269 (2 : Int32) fr tt), .second, vJ (tm v1_272 (3 : Int32) fr tt), .second, vJ (tm v1_275 (4 : Int32) fr tt), .second, vJ (tm v1_278 (5 : Int32) fr tt), .second, vU, vU] [(.long (0 : Int64)), (.long (tm v1_263 (0 : Int32) fr tt))]))
    refine Go.step (fun _ k => XS.lcmp X_303.here hx rfl (hb hby at_206) rfl k) ?_
    show Go p e below _ (T_303.setTop (mkF m 207 #[vJ p0, .second, vJ p1, .second, vJ p2, .second, vI p3, vI p4, vR b262, vI fr, vI tt, vR b281, vJ (rdF (sel v1_263 v1_266 v1_269 v1_272 v1_275 v1_278) tt 6 fr (0 : Int64)), .second, vJ (tm v1_263 (0 : Int32) fr tt), .second, vJ (tm v1_266 (1 : Int32) fr tt), .second, vJ (tm v1_269 (2 : Int32) fr tt), .second, vJ (tm v1_272 (3 : Int32) fr tt), .second, vJ (tm v1_275 (4 : Int32) fr tt), .second, vJ (tm v1_278 (5 : Int32) fr tt), .second, vU, vU] [(.int (lcmpW (tm v1_263 (0 : Int32) fr tt) (0 : Int64)))]))
    by_cases w0 : (tm v1_263 (0 : Int32) fr tt) < (0 : Int64)
    · skip
      refine Go.step (fun _ k => XS.ifYes X_303.here hx rfl (pc0 := 207) (pc' := 245) rfl (hb hby at_207) rfl ((if0 _ _).trans (tlt ((lw_lt _ _).mpr w0)).1) (by decide) (by decide) k) ?_
      show Go p e below _ (T_303.setTop (mkF m 245 #[vJ p0, .second, vJ p1, .second, vJ p2, .second, vI p3, vI p4, vR b262, vI fr, vI tt, vR b281, vJ (rdF (sel v1_263 v1_266 v1_269 v1_272 v1_275 v1_278) tt 6 fr (0 : Int64)), .second, vJ (tm v1_263 (0 : Int32) fr tt), .second, vJ (tm v1_266 (1 : Int32) fr tt), .second, vJ (tm v1_269 (2 : Int32) fr tt), .second, vJ (tm v1_272 (3 : Int32) fr tt), .second, vJ (tm v1_275 (4 : Int32) fr tt), .second, vJ (tm v1_278 (5 : Int32) fr tt), .second, vU, vU] []))
      refine Go.step (fun _ k => X_303.ldc2Long hx hown (mvT hZ (wd_93 hw)) (g := (mkF m 245 #[vJ p0, .second, vJ p1, .second, vJ p2, .second, vI p3, vI p4, vR b262, vI fr, vI tt, vR b281, vJ (rdF (sel v1_263 v1_266 v1_269 v1_272 v1_275 v1_278) tt 6 fr (0 : Int64)), .second, vJ (tm v1_263 (0 : Int32) fr tt), .second, vJ (tm v1_266 (1 : Int32) fr tt), .second, vJ (tm v1_269 (2 : Int32) fr tt), .second, vJ (tm v1_272 (3 : Int32) fr tt), .second, vJ (tm v1_275 (4 : Int32) fr tt), .second, vJ (tm v1_278 (5 : Int32) fr tt), .second, vU, vU] [])) rfl (hb hby at_245) _ k) ?_
      show Go p e below _ (T_303.setTop (mkF m 248 #[vJ p0, .second, vJ p1, .second, vJ p2, .second, vI p3, vI p4, vR b262, vI fr, vI tt, vR b281, vJ (rdF (sel v1_263 v1_266 v1_269 v1_272 v1_275 v1_278) tt 6 fr (0 : Int64)), .second, vJ (tm v1_263 (0 : Int32) fr tt), .second, vJ (tm v1_266 (1 : Int32) fr tt), .second, vJ (tm v1_269 (2 : Int32) fr tt), .second, vJ (tm v1_272 (3 : Int32) fr tt), .second, vJ (tm v1_275 (4 : Int32) fr tt), .second, vJ (tm v1_278 (5 : Int32) fr tt), .second, vU, vU] [(.long (-1 : Int64))]))
      refine Go.step (fun _ k => XS.lstore X_303.here hx rfl (hb hby at_248) rfl (l' := #[vJ p0, .second, vJ p1, .second, vJ p2, .second, vI p3, vI p4, vR b262, vI fr, vI tt, vR b281, vJ (rdF (sel v1_263 v1_266 v1_269 v1_272 v1_275 v1_278) tt 6 fr (0 : Int64)), .second, vJ (tm v1_263 (0 : Int32) fr tt), .second, vJ (tm v1_266 (1 : Int32) fr tt), .second, vJ (tm v1_269 (2 : Int32) fr tt), .second, vJ (tm v1_272 (3 : Int32) fr tt), .second, vJ (tm v1_275 (4 : Int32) fr tt), .second, vJ (tm v1_278 (5 : Int32) fr tt), .second, vJ (-1), .second]) rfl k) ?_
      show Go p e below _ (T_303.setTop (mkF m 250 #[vJ p0, .second, vJ p1, .second, vJ p2, .second, vI p3, vI p4, vR b262, vI fr, vI tt, vR b281, vJ (rdF (sel v1_263 v1_266 v1_269 v1_272 v1_275 v1_278) tt 6 fr (0 : Int64)), .second, vJ (tm v1_263 (0 : Int32) fr tt), .second, vJ (tm v1_266 (1 : Int32) fr tt), .second, vJ (tm v1_269 (2 : Int32) fr tt), .second, vJ (tm v1_272 (3 : Int32) fr tt), .second, vJ (tm v1_275 (4 : Int32) fr tt), .second, vJ (tm v1_278 (5 : Int32) fr tt), .second, vJ (-1), .second] []))
      refine Go.step (fun _ k => XS.goto X_303.here hx rfl (pc0 := 250) (pc' := 272) rfl (hb hby at_250) (by decide) (by decide) k) ?_
      show Go p e below _ (T_303.setTop (mkF m 272 #[vJ p0, .second, vJ p1, .second, vJ p2, .second, vI p3, vI p4, vR b262, vI fr, vI tt, vR b281, vJ (rdF (sel v1_263 v1_266 v1_269 v1_272 v1_275 v1_278) tt 6 fr (0 : Int64)), .second, vJ (tm v1_263 (0 : Int32) fr tt), .second, vJ (tm v1_266 (1 : Int32) fr tt), .second, vJ (tm v1_269 (2 : Int32) fr tt), .second, vJ (tm v1_272 (3 : Int32) fr tt), .second, vJ (tm v1_275 (4 : Int32) fr tt), .second, vJ (tm v1_278 (5 : Int32) fr tt), .second, vJ (-1), .second] []))
      refine Go.step (fun _ k => XS.lload X_303.here hx rfl (hb hby at_272) rfl  k) ?_
      refine Go.step (fun _ k => XS.lload X_303.here hx rfl (hb hby at_274) rfl  k) ?_
      show Go p e below _ (T_303.setTop (mkF m 276 #[vJ p0, .second, vJ p1, .second, vJ p2, .second, vI p3, vI p4, vR b262, vI fr, vI tt, vR b281, vJ (rdF (sel v1_263 v1_266 v1_269 v1_272 v1_275 v1_278) tt 6 fr (0 : Int64)), .second, vJ (tm v1_263 (0 : Int32) fr tt), .second, vJ (tm v1_266 (1 : Int32) fr tt), .second, vJ (tm v1_269 (2 : Int32) fr tt), .second, vJ (tm v1_272 (3 : Int32) fr tt), .second, vJ (tm v1_275 (4 : Int32) fr tt), .second, vJ (tm v1_278 (5 : Int32) fr tt), .second, vJ (-1), .second] [(.long (-1 : Int64)), (.long (rdF (sel v1_263 v1_266 v1_269 v1_272 v1_275 v1_278) tt 6 fr (0 : Int64)))]))
      refine Go.step (fun _ k => XS.lcmp X_303.here hx rfl (hb hby at_276) rfl k) ?_
      show Go p e below _ (T_303.setTop (mkF m 277 #[vJ p0, .second, vJ p1, .second, vJ p2, .second, vI p3, vI p4, vR b262, vI fr, vI tt, vR b281, vJ (rdF (sel v1_263 v1_266 v1_269 v1_272 v1_275 v1_278) tt 6 fr (0 : Int64)), .second, vJ (tm v1_263 (0 : Int32) fr tt), .second, vJ (tm v1_266 (1 : Int32) fr tt), .second, vJ (tm v1_269 (2 : Int32) fr tt), .second, vJ (tm v1_272 (3 : Int32) fr tt), .second, vJ (tm v1_275 (4 : Int32) fr tt), .second, vJ (tm v1_278 (5 : Int32) fr tt), .second, vJ (-1), .second] [(.int (lcmpW (rdF (sel v1_263 v1_266 v1_269 v1_272 v1_275 v1_278) tt 6 fr (0 : Int64)) (-1 : Int64)))]))
      refine Go.step (fun _ k => XS.ifNo X_303.here hx rfl (hb hby at_277) rfl ((if0 _ _).trans (teq ((lw_eq _ _).mpr ((math0 hh0 hh1 hh2 hh3 hh4 hh5 h_ft w0) : (rdF (sel v1_263 v1_266 v1_269 v1_272 v1_275 v1_278) tt 6 fr (0 : Int64)) = (-1 : Int64)))).2) k) ?_
      show Go p e below _ (T_303.setTop (mkF m 280 #[vJ p0, .second, vJ p1, .second, vJ p2, .second, vI p3, vI p4, vR b262, vI fr, vI tt, vR b281, vJ (rdF (sel v1_263 v1_266 v1_269 v1_272 v1_275 v1_278) tt 6 fr (0 : Int64)), .second, vJ (tm v1_263 (0 : Int32) fr tt), .second, vJ (tm v1_266 (1 : Int32) fr tt), .second, vJ (tm v1_269 (2 : Int32) fr tt), .second, vJ (tm v1_272 (3 : Int32) fr tt), .second, vJ (tm v1_275 (4 : Int32) fr tt), .second, vJ (tm v1_278 (5 : Int32) fr tt), .second, vJ (-1), .second] []))
      refine Go.step (fun _ k => XS.iconst X_303.here hx rfl (hb hby at_280) k) ?_
      show Go p e below _ (T_303.setTop (mkF m 281 #[vJ p0, .second, vJ p1, .second, vJ p2, .second, vI p3, vI p4, vR b262, vI fr, vI tt, vR b281, vJ (rdF (sel v1_263 v1_266 v1_269 v1_272 v1_275 v1_278) tt 6 fr (0 : Int64)), .second, vJ (tm v1_263 (0 : Int32) fr tt), .second, vJ (tm v1_266 (1 : Int32) fr tt), .second, vJ (tm v1_269 (2 : Int32) fr tt), .second, vJ (tm v1_272 (3 : Int32) fr tt), .second, vJ (tm v1_275 (4 : Int32) fr tt), .second, vJ (tm v1_278 (5 : Int32) fr tt), .second, vJ (-1), .second] [(.int (1 : Int32))]))
      refine Go.step (fun _ k => XS.goto X_303.here hx rfl (pc0 := 281) (pc' := 285) rfl (hb hby at_281) (by decide) (by decide) k) ?_
      show Go p e below _ (T_303.setTop (mkF m 285 #[vJ p0, .second, vJ p1, .second, vJ p2, .second, vI p3, vI p4, vR b262, vI fr, vI tt, vR b281, vJ (rdF (sel v1_263 v1_266 v1_269 v1_272 v1_275 v1_278) tt 6 fr (0 : Int64)), .second, vJ (tm v1_263 (0 : Int32) fr tt), .second, vJ (tm v1_266 (1 : Int32) fr tt), .second, vJ (tm v1_269 (2 : Int32) fr tt), .second, vJ (tm v1_272 (3 : Int32) fr tt), .second, vJ (tm v1_275 (4 : Int32) fr tt), .second, vJ (tm v1_278 (5 : Int32) fr tt), .second, vJ (-1), .second] [(.int (1 : Int32))]))
      exact Go.retV X_303 hx hlk hret rfl (Or.inl ⟨rfl, Or.inr (Or.inl rfl), _, rfl⟩) (hb hby at_285) (by decide) (by decide) (by rw [e_303]; exact ⟨rfl, N_303⟩)
    · skip
      refine Go.step (fun _ k => XS.ifNo X_303.here hx rfl (hb hby at_207) rfl ((if0 _ _).trans (flt (fun q => w0 ((lw_lt _ _).mp q))).1) k) ?_
      show Go p e below _ (T_303.setTop (mkF m 210 #[vJ p0, .second, vJ p1, .second, vJ p2, .second, vI p3, vI p4, vR b262, vI fr, vI tt, vR b281, vJ (rdF (sel v1_263 v1_266 v1_269 v1_272 v1_275 v1_278) tt 6 fr (0 : Int64)), .second, vJ (tm v1_263 (0 : Int32) fr tt), .second, vJ (tm v1_266 (1 : Int32) fr tt), .second, vJ (tm v1_269 (2 : Int32) fr tt), .second, vJ (tm v1_272 (3 : Int32) fr tt), .second, vJ (tm v1_275 (4 : Int32) fr tt), .second, vJ (tm v1_278 (5 : Int32) fr tt), .second, vU, vU] []))
      refine Go.step (fun _ k => XS.lload X_303.here hx rfl (hb hby at_210) rfl  k) ?_
      refine Go.step (fun _ k => XS.lconst X_303.here hx rfl (hb hby at_212) k) ?_
      show Go p e below _ (T_303.setTop (mkF m 213 #[vJ p0, .second, vJ p1, .second, vJ p2, .second, vI p3, vI p4, vR b262, vI fr, vI tt, vR b281, vJ (rdF (sel v1_263 v1_266 v1_269 v1_272 v1_275 v1_278) tt 6 fr (0 : Int64)), .second, vJ (tm v1_263 (0 : Int32) fr tt), .second, vJ (tm v1_266 (1 : Int32) fr tt), .second, vJ (tm v1_269 (2 : Int32) fr tt), .second, vJ (tm v1_272 (3 : Int32) fr tt), .second, vJ (tm v1_275 (4 : Int32) fr tt), .second, vJ (tm v1_278 (5 : Int32) fr tt), .second, vU, vU] [(.long (0 : Int64)), (.long (tm v1_266 (1 : Int32) fr tt))]))
      refine Go.step (fun _ k => XS.lcmp X_303.here hx rfl (hb hby at_213) rfl k) ?_
      show Go p e below _ (T_303.setTop (mkF m 214 #[vJ p0, .second, vJ p1, .second, vJ p2, .second, vI p3, vI p4, vR b262, vI fr, vI tt, vR b281, vJ (rdF (sel v1_263 v1_266 v1_269 v1_272 v1_275 v1_278) tt 6 fr (0 : Int64)), .second, vJ (tm v1_263 (0 : Int32) fr tt), .second, vJ (tm v1_266 (1 : Int32) fr tt), .second, vJ (tm v1_269 (2 : Int32) fr tt), .second, vJ (tm v1_272 (3 : Int32) fr tt), .second, vJ (tm v1_275 (4 : Int32) fr tt), .second, vJ (tm v1_278 (5 : Int32) fr tt), .second, vU, vU] [(.int (lcmpW (tm v1_266 (1 : Int32) fr tt) (0 : Int64)))]))
      by_cases w1 : (tm v1_266 (1 : Int32) fr tt) < (0 : Int64)
      · skip
        refine Go.step (fun _ k => XS.ifYes X_303.here hx rfl (pc0 := 214) (pc' := 245) rfl (hb hby at_214) rfl ((if0 _ _).trans (tlt ((lw_lt _ _).mpr w1)).1) (by decide) (by decide) k) ?_
        show Go p e below _ (T_303.setTop (mkF m 245 #[vJ p0, .second, vJ p1, .second, vJ p2, .second, vI p3, vI p4, vR b262, vI fr, vI tt, vR b281, vJ (rdF (sel v1_263 v1_266 v1_269 v1_272 v1_275 v1_278) tt 6 fr (0 : Int64)), .second, vJ (tm v1_263 (0 : Int32) fr tt), .second, vJ (tm v1_266 (1 : Int32) fr tt), .second, vJ (tm v1_269 (2 : Int32) fr tt), .second, vJ (tm v1_272 (3 : Int32) fr tt), .second, vJ (tm v1_275 (4 : Int32) fr tt), .second, vJ (tm v1_278 (5 : Int32) fr tt), .second, vU, vU] []))
        refine Go.step (fun _ k => X_303.ldc2Long hx hown (mvT hZ (wd_93 hw)) (g := (mkF m 245 #[vJ p0, .second, vJ p1, .second, vJ p2, .second, vI p3, vI p4, vR b262, vI fr, vI tt, vR b281, vJ (rdF (sel v1_263 v1_266 v1_269 v1_272 v1_275 v1_278) tt 6 fr (0 : Int64)), .second, vJ (tm v1_263 (0 : Int32) fr tt), .second, vJ (tm v1_266 (1 : Int32) fr tt), .second, vJ (tm v1_269 (2 : Int32) fr tt), .second, vJ (tm v1_272 (3 : Int32) fr tt), .second, vJ (tm v1_275 (4 : Int32) fr tt), .second, vJ (tm v1_278 (5 : Int32) fr tt), .second, vU, vU] [])) rfl (hb hby at_245) _ k) ?_
        show Go p e below _ (T_303.setTop (mkF m 248 #[vJ p0, .second, vJ p1, .second, vJ p2, .second, vI p3, vI p4, vR b262, vI fr, vI tt, vR b281, vJ (rdF (sel v1_263 v1_266 v1_269 v1_272 v1_275 v1_278) tt 6 fr (0 : Int64)), .second, vJ (tm v1_263 (0 : Int32) fr tt), .second, vJ (tm v1_266 (1 : Int32) fr tt), .second, vJ (tm v1_269 (2 : Int32) fr tt), .second, vJ (tm v1_272 (3 : Int32) fr tt), .second, vJ (tm v1_275 (4 : Int32) fr tt), .second, vJ (tm v1_278 (5 : Int32) fr tt), .second, vU, vU] [(.long (-1 : Int64))]))
        refine Go.step (fun _ k => XS.lstore X_303.here hx rfl (hb hby at_248) rfl (l' := #[vJ p0, .second, vJ p1, .second, vJ p2, .second, vI p3, vI p4, vR b262, vI fr, vI tt, vR b281, vJ (rdF (sel v1_263 v1_266 v1_269 v1_272 v1_275 v1_278) tt 6 fr (0 : Int64)), .second, vJ (tm v1_263 (0 : Int32) fr tt), .second, vJ (tm v1_266 (1 : Int32) fr tt), .second, vJ (tm v1_269 (2 : Int32) fr tt), .second, vJ (tm v1_272 (3 : Int32) fr tt), .second, vJ (tm v1_275 (4 : Int32) fr tt), .second, vJ (tm v1_278 (5 : Int32) fr tt), .second, vJ (-1), .second]) rfl k) ?_
        show Go p e below _ (T_303.setTop (mkF m 250 #[vJ p0, .second, vJ p1, .second, vJ p2, .second, vI p3, vI p4, vR b262, vI fr, vI tt, vR b281, vJ (rdF (sel v1_263 v1_266 v1_269 v1_272 v1_275 v1_278) tt 6 fr (0 : Int64)), .second, vJ (tm v1_263 (0 : Int32) fr tt), .second, vJ (tm v1_266 (1 : Int32) fr tt), .second, vJ (tm v1_269 (2 : Int32) fr tt), .second, vJ (tm v1_272 (3 : Int32) fr tt), .second, vJ (tm v1_275 (4 : Int32) fr tt), .second, vJ (tm v1_278 (5 : Int32) fr tt), .second, vJ (-1), .second] []))
        refine Go.step (fun _ k => XS.goto X_303.here hx rfl (pc0 := 250) (pc' := 272) rfl (hb hby at_250) (by decide) (by decide) k) ?_
        show Go p e below _ (T_303.setTop (mkF m 272 #[vJ p0, .second, vJ p1, .second, vJ p2, .second, vI p3, vI p4, vR b262, vI fr, vI tt, vR b281, vJ (rdF (sel v1_263 v1_266 v1_269 v1_272 v1_275 v1_278) tt 6 fr (0 : Int64)), .second, vJ (tm v1_263 (0 : Int32) fr tt), .second, vJ (tm v1_266 (1 : Int32) fr tt), .second, vJ (tm v1_269 (2 : Int32) fr tt), .second, vJ (tm v1_272 (3 : Int32) fr tt), .second, vJ (tm v1_275 (4 : Int32) fr tt), .second, vJ (tm v1_278 (5 : Int32) fr tt), .second, vJ (-1), .second] []))
        refine Go.step (fun _ k => XS.lload X_303.here hx rfl (hb hby at_272) rfl  k) ?_
        refine Go.step (fun _ k => XS.lload X_303.here hx rfl (hb hby at_274) rfl  k) ?_
        show Go p e below _ (T_303.setTop (mkF m 276 #[vJ p0, .second, vJ p1, .second, vJ p2, .second, vI p3, vI p4, vR b262, vI fr, vI tt, vR b281, vJ (rdF (sel v1_263 v1_266 v1_269 v1_272 v1_275 v1_278) tt 6 fr (0 : Int64)), .second, vJ (tm v1_263 (0 : Int32) fr tt), .second, vJ (tm v1_266 (1 : Int32) fr tt), .second, vJ (tm v1_269 (2 : Int32) fr tt), .second, vJ (tm v1_272 (3 : Int32) fr tt), .second, vJ (tm v1_275 (4 : Int32) fr tt), .second, vJ (tm v1_278 (5 : Int32) fr tt), .second, vJ (-1), .second] [(.long (-1 : Int64)), (.long (rdF (sel v1_263 v1_266 v1_269 v1_272 v1_275 v1_278) tt 6 fr (0 : Int64)))]))
        refine Go.step (fun _ k => XS.lcmp X_303.here hx rfl (hb hby at_276) rfl k) ?_
        show Go p e below _ (T_303.setTop (mkF m 277 #[vJ p0, .second, vJ p1, .second, vJ p2, .second, vI p3, vI p4, vR b262, vI fr, vI tt, vR b281, vJ (rdF (sel v1_263 v1_266 v1_269 v1_272 v1_275 v1_278) tt 6 fr (0 : Int64)), .second, vJ (tm v1_263 (0 : Int32) fr tt), .second, vJ (tm v1_266 (1 : Int32) fr tt), .second, vJ (tm v1_269 (2 : Int32) fr tt), .second, vJ (tm v1_272 (3 : Int32) fr tt), .second, vJ (tm v1_275 (4 : Int32) fr tt), .second, vJ (tm v1_278 (5 : Int32) fr tt), .second, vJ (-1), .second] [(.int (lcmpW (rdF (sel v1_263 v1_266 v1_269 v1_272 v1_275 v1_278) tt 6 fr (0 : Int64)) (-1 : Int64)))]))
        refine Go.step (fun _ k => XS.ifNo X_303.here hx rfl (hb hby at_277) rfl ((if0 _ _).trans (teq ((lw_eq _ _).mpr ((math1 hh0 hh1 hh2 hh3 hh4 hh5 h_ft w0 w1) : (rdF (sel v1_263 v1_266 v1_269 v1_272 v1_275 v1_278) tt 6 fr (0 : Int64)) = (-1 : Int64)))).2) k) ?_
        show Go p e below _ (T_303.setTop (mkF m 280 #[vJ p0, .second, vJ p1, .second, vJ p2, .second, vI p3, vI p4, vR b262, vI fr, vI tt, vR b281, vJ (rdF (sel v1_263 v1_266 v1_269 v1_272 v1_275 v1_278) tt 6 fr (0 : Int64)), .second, vJ (tm v1_263 (0 : Int32) fr tt), .second, vJ (tm v1_266 (1 : Int32) fr tt), .second, vJ (tm v1_269 (2 : Int32) fr tt), .second, vJ (tm v1_272 (3 : Int32) fr tt), .second, vJ (tm v1_275 (4 : Int32) fr tt), .second, vJ (tm v1_278 (5 : Int32) fr tt), .second, vJ (-1), .second] []))
        refine Go.step (fun _ k => XS.iconst X_303.here hx rfl (hb hby at_280) k) ?_
        show Go p e below _ (T_303.setTop (mkF m 281 #[vJ p0, .second, vJ p1, .second, vJ p2, .second, vI p3, vI p4, vR b262, vI fr, vI tt, vR b281, vJ (rdF (sel v1_263 v1_266 v1_269 v1_272 v1_275 v1_278) tt 6 fr (0 : Int64)), .second, vJ (tm v1_263 (0 : Int32) fr tt), .second, vJ (tm v1_266 (1 : Int32) fr tt), .second, vJ (tm v1_269 (2 : Int32) fr tt), .second, vJ (tm v1_272 (3 : Int32) fr tt), .second, vJ (tm v1_275 (4 : Int32) fr tt), .second, vJ (tm v1_278 (5 : Int32) fr tt), .second, vJ (-1), .second] [(.int (1 : Int32))]))
        refine Go.step (fun _ k => XS.goto X_303.here hx rfl (pc0 := 281) (pc' := 285) rfl (hb hby at_281) (by decide) (by decide) k) ?_
        show Go p e below _ (T_303.setTop (mkF m 285 #[vJ p0, .second, vJ p1, .second, vJ p2, .second, vI p3, vI p4, vR b262, vI fr, vI tt, vR b281, vJ (rdF (sel v1_263 v1_266 v1_269 v1_272 v1_275 v1_278) tt 6 fr (0 : Int64)), .second, vJ (tm v1_263 (0 : Int32) fr tt), .second, vJ (tm v1_266 (1 : Int32) fr tt), .second, vJ (tm v1_269 (2 : Int32) fr tt), .second, vJ (tm v1_272 (3 : Int32) fr tt), .second, vJ (tm v1_275 (4 : Int32) fr tt), .second, vJ (tm v1_278 (5 : Int32) fr tt), .second, vJ (-1), .second] [(.int (1 : Int32))]))
        exact Go.retV X_303 hx hlk hret rfl (Or.inl ⟨rfl, Or.inr (Or.inl rfl), _, rfl⟩) (hb hby at_285) (by decide) (by decide) (by rw [e_303]; exact ⟨rfl, N_303⟩)
      · skip
        refine Go.step (fun _ k => XS.ifNo X_303.here hx rfl (hb hby at_214) rfl ((if0 _ _).trans (flt (fun q => w1 ((lw_lt _ _).mp q))).1) k) ?_
        show Go p e below _ (T_303.setTop (mkF m 217 #[vJ p0, .second, vJ p1, .second, vJ p2, .second, vI p3, vI p4, vR b262, vI fr, vI tt, vR b281, vJ (rdF (sel v1_263 v1_266 v1_269 v1_272 v1_275 v1_278) tt 6 fr (0 : Int64)), .second, vJ (tm v1_263 (0 : Int32) fr tt), .second, vJ (tm v1_266 (1 : Int32) fr tt), .second, vJ (tm v1_269 (2 : Int32) fr tt), .second, vJ (tm v1_272 (3 : Int32) fr tt), .second, vJ (tm v1_275 (4 : Int32) fr tt), .second, vJ (tm v1_278 (5 : Int32) fr tt), .second, vU, vU] []))
        refine Go.step (fun _ k => XS.lload X_303.here hx rfl (hb hby at_217) rfl  k) ?_
        refine Go.step (fun _ k => XS.lconst X_303.here hx rfl (hb hby at_219) k) ?_
        show Go p e below _ (T_303.setTop (mkF m 220 #[vJ p0, .second, vJ p1, .second, vJ p2, .second, vI p3, vI p4, vR b262, vI fr, vI tt, vR b281, vJ (rdF (sel v1_263 v1_266 v1_269 v1_272 v1_275 v1_278) tt 6 fr (0 : Int64)), .second, vJ (tm v1_263 (0 : Int32) fr tt), .second, vJ (tm v1_266 (1 : Int32) fr tt), .second, vJ (tm v1_269 (2 : Int32) fr tt), .second, vJ (tm v1_272 (3 : Int32) fr tt), .second, vJ (tm v1_275 (4 : Int32) fr tt), .second, vJ (tm v1_278 (5 : Int32) fr tt), .second, vU, vU] [(.long (0 : Int64)), (.long (tm v1_269 (2 : Int32) fr tt))]))
        refine Go.step (fun _ k => XS.lcmp X_303.here hx rfl (hb hby at_220) rfl k) ?_
        show Go p e below _ (T_303.setTop (mkF m 221 #[vJ p0, .second, vJ p1, .second, vJ p2, .second, vI p3, vI p4, vR b262, vI fr, vI tt, vR b281, vJ (rdF (sel v1_263 v1_266 v1_269 v1_272 v1_275 v1_278) tt 6 fr (0 : Int64)), .second, vJ (tm v1_263 (0 : Int32) fr tt), .second, vJ (tm v1_266 (1 : Int32) fr tt), .second, vJ (tm v1_269 (2 : Int32) fr tt), .second, vJ (tm v1_272 (3 : Int32) fr tt), .second, vJ (tm v1_275 (4 : Int32) fr tt), .second, vJ (tm v1_278 (5 : Int32) fr tt), .second, vU, vU] [(.int (lcmpW (tm v1_269 (2 : Int32) fr tt) (0 : Int64)))]))
        by_cases w2 : (tm v1_269 (2 : Int32) fr tt) < (0 : Int64)
        · skip
          refine Go.step (fun _ k => XS.ifYes X_303.here hx rfl (pc0 := 221) (pc' := 245) rfl (hb hby at_221) rfl ((if0 _ _).trans (tlt ((lw_lt _ _).mpr w2)).1) (by decide) (by decide) k) ?_
          show Go p e below _ (T_303.setTop (mkF m 245 #[vJ p0, .second, vJ p1, .second, vJ p2, .second, vI p3, vI p4, vR b262, vI fr, vI tt, vR b281, vJ (rdF (sel v1_263 v1_266 v1_269 v1_272 v1_275 v1_278) tt 6 fr (0 : Int64)), .second, vJ (tm v1_263 (0 : Int32) fr tt), .second, vJ (tm v1_266 (1 : Int32) fr tt), .second, vJ (tm v1_269 (2 : Int32) fr tt), .second, vJ (tm v1_272 (3 : Int32) fr tt), .second, vJ (tm v1_275 (4 : Int32) fr tt), .second, vJ (tm v1_278 (5 : Int32) fr tt), .second, vU, vU] []))
          refine Go.step (fun _ k => X_303.ldc2Long hx hown (mvT hZ (wd_93 hw)) (g := (mkF m 245 #[vJ p0, .second, vJ p1, .second, vJ p2, .second, vI p3, vI p4, vR b262, vI fr, vI tt, vR b281, vJ (rdF (sel v1_263 v1_266 v1_269 v1_272 v1_275 v1_278) tt 6 fr (0 : Int64)), .second, vJ (tm v1_263 (0 : Int32) fr tt), .second, vJ (tm v1_266 (1 : Int32) fr tt), .second, vJ (tm v1_269 (2 : Int32) fr tt), .second, vJ (tm v1_272 (3 : Int32) fr tt), .second, vJ (tm v1_275 (4 : Int32) fr tt), .second, vJ (tm v1_278 (5 : Int32) fr tt), .second, vU, vU] [])) rfl (hb hby at_245) _ k) ?_
          show Go p e below _ (T_303.setTop (mkF m 248 #[vJ p0, .second, vJ p1, .second, vJ p2, .second, vI p3, vI p4, vR b262, vI fr, vI tt, vR b281, vJ (rdF (sel v1_263 v1_266 v1_269 v1_272 v1_275 v1_278) tt 6 fr (0 : Int64)), .second, vJ (tm v1_263 (0 : Int32) fr tt), .second, vJ (tm v1_266 (1 : Int32) fr tt), .second, vJ (tm v1_269 (2 : Int32) fr tt), .second, vJ (tm v1_272 (3 : Int32) fr tt), .second, vJ (tm v1_275 (4 : Int32) fr tt), .second, vJ (tm v1_278 (5 : Int32) fr tt), .second, vU, vU] [(.long (-1 : Int64))]))
          refine Go.step (fun _ k => XS.lstore X_303.here hx rfl (hb hby at_248) rfl (l' := #[vJ p0, .second, vJ p1, .second, vJ p2, .second, vI p3, vI p4, vR b262, vI fr, vI tt, vR b281, vJ (rdF (sel v1_263 v1_266 v1_269 v1_272 v1_275 v1_278) tt 6 fr (0 : Int64)), .second, vJ (tm v1_263 (0 : Int32) fr tt), .second, vJ (tm v1_266 (1 : Int32) fr tt), .second, vJ (tm v1_269 (2 : Int32) fr tt), .second, vJ (tm v1_272 (3 : Int32) fr tt), .second, vJ (tm v1_275 (4 : Int32) fr tt), .second, vJ (tm v1_278 (5 : Int32) fr tt), .second, vJ (-1), .second]) rfl k) ?_
          show Go p e below _ (T_303.setTop (mkF m 250 #[vJ p0, .second, vJ p1, .second, vJ p2, .second, vI p3, vI p4, vR b262, vI fr, vI tt, vR b281, vJ (rdF (sel v1_263 v1_266 v1_269 v1_272 v1_275 v1_278) tt 6 fr (0 : Int64)), .second, vJ (tm v1_263 (0 : Int32) fr tt), .second, vJ (tm v1_266 (1 : Int32) fr tt), .second, vJ (tm v1_269 (2 : Int32) fr tt), .second, vJ (tm v1_272 (3 : Int32) fr tt), .second, vJ (tm v1_275 (4 : Int32) fr tt), .second, vJ (tm v1_278 (5 : Int32) fr tt), .second, vJ (-1), .second] []))
          refine Go.step (fun _ k => XS.goto X_303.here hx rfl (pc0 := 250) (pc' := 272) rfl (hb hby at_250) (by decide) (by decide) k) ?_
          show Go p e below _ (T_303.setTop (mkF m 272 #[vJ p0, .second, vJ p1, .second, vJ p2, .second, vI p3, vI p4, vR b262, vI fr, vI tt, vR b281, vJ (rdF (sel v1_263 v1_266 v1_269 v1_272 v1_275 v1_278) tt 6 fr (0 : Int64)), .second, vJ (tm v1_263 (0 : Int32) fr tt), .second, vJ (tm v1_266 (1 : Int32) fr tt), .second, vJ (tm v1_269 (2 : Int32) fr tt), .second, vJ (tm v1_272 (3 : Int32) fr tt), .second, vJ (tm v1_275 (4 : Int32) fr tt), .second, vJ (tm v1_278 (5 : Int32) fr tt), .second, vJ (-1), .second] []))
          refine Go.step (fun _ k => XS.lload X_303.here hx rfl (hb hby at_272) rfl  k) ?_
          refine Go.step (fun _ k => XS.lload X_303.here hx rfl (hb hby at_274) rfl  k) ?_
          show Go p e below _ (T_303.setTop (mkF m 276 #[vJ p0, .second, vJ p1, .second, vJ p2, .second, vI p3, vI p4, vR b262, vI fr, vI tt, vR b281, vJ (rdF (sel v1_263 v1_266 v1_269 v1_272 v1_275 v1_278) tt 6 fr (0 : Int64)), .second, vJ (tm v1_263 (0 : Int32) fr tt), .second, vJ (tm v1_266 (1 : Int32) fr tt), .second, vJ (tm v1_269 (2 : Int32) fr tt), .second, vJ (tm v1_272 (3 : Int32) fr tt), .second, vJ (tm v1_275 (4 : Int32) fr tt), .second, vJ (tm v1_278 (5 : Int32) fr tt), .second, vJ (-1), .second] [(.long (-1 : Int64)), (.long (rdF (sel v1_263 v1_266 v1_269 v1_272 v1_275 v1_278) tt 6 fr (0 : Int64)))]))
          refine Go.step (fun _ k => XS.lcmp X_303.here hx rfl (hb hby at_276) rfl k) ?_
          show Go p e below _ (T_303.setTop (mkF m 277 #[vJ p0, .second, vJ p1, .second, vJ p2, .second, vI p3, vI p4, vR b262, vI fr, vI tt, vR b281, vJ (rdF (sel v1_263 v1_266 v1_269 v1_272 v1_275 v1_278) tt 6 fr (0 : Int64)), .second, vJ (tm v1_263 (0 : Int32) fr tt), .second, vJ (tm v1_266 (1 : Int32) fr tt), .second, vJ (tm v1_269 (2 : Int32) fr tt), .second, vJ (tm v1_272 (3 : Int32) fr tt), .second, vJ (tm v1_275 (4 : Int32) fr tt), .second, vJ (tm v1_278 (5 : Int32) fr tt), .second, vJ (-1), .second] [(.int (lcmpW (rdF (sel v1_263 v1_266 v1_269 v1_272 v1_275 v1_278) tt 6 fr (0 : Int64)) (-1 : Int64)))]))
          refine Go.step (fun _ k => XS.ifNo X_303.here hx rfl (hb hby at_277) rfl ((if0 _ _).trans (teq ((lw_eq _ _).mpr ((math2 hh0 hh1 hh2 hh3 hh4 hh5 h_ft w0 w1 w2) : (rdF (sel v1_263 v1_266 v1_269 v1_272 v1_275 v1_278) tt 6 fr (0 : Int64)) = (-1 : Int64)))).2) k) ?_
          show Go p e below _ (T_303.setTop (mkF m 280 #[vJ p0, .second, vJ p1, .second, vJ p2, .second, vI p3, vI p4, vR b262, vI fr, vI tt, vR b281, vJ (rdF (sel v1_263 v1_266 v1_269 v1_272 v1_275 v1_278) tt 6 fr (0 : Int64)), .second, vJ (tm v1_263 (0 : Int32) fr tt), .second, vJ (tm v1_266 (1 : Int32) fr tt), .second, vJ (tm v1_269 (2 : Int32) fr tt), .second, vJ (tm v1_272 (3 : Int32) fr tt), .second, vJ (tm v1_275 (4 : Int32) fr tt), .second, vJ (tm v1_278 (5 : Int32) fr tt), .second, vJ (-1), .second] []))
          refine Go.step (fun _ k => XS.iconst X_303.here hx rfl (hb hby at_280) k) ?_
          show Go p e below _ (T_303.setTop (mkF m 281 #[vJ p0, .second, vJ p1, .second, vJ p2, .second, vI p3, vI p4, vR b262, vI fr, vI tt, vR b281, vJ (rdF (sel v1_263 v1_266 v1_269 v1_272 v1_275 v1_278) tt 6 fr (0 : Int64)), .second, vJ (tm v1_263 (0 : Int32) fr tt), .second, vJ (tm v1_266 (1 : Int32) fr tt), .second, vJ (tm v1_269 (2 : Int32) fr tt), .second, vJ (tm v1_272 (3 : Int32) fr tt), .second, vJ (tm v1_275 (4 : Int32) fr tt), .second, vJ (tm v1_278 (5 : Int32) fr tt), .second, vJ (-1), .second] [(.int (1 : Int32))]))
          refine Go.step (fun _ k => XS.goto X_303.here hx rfl (pc0 := 281) (pc' := 285) rfl (hb hby at_281) (by decide) (by decide) k) ?_
          show Go p e below _ (T_303.setTop (mkF m 285 #[vJ p0, .second, vJ p1, .second, vJ p2, .second, vI p3, vI p4, vR b262, vI fr, vI tt, vR b281, vJ (rdF (sel v1_263 v1_266 v1_269 v1_272 v1_275 v1_278) tt 6 fr (0 : Int64)), .second, vJ (tm v1_263 (0 : Int32) fr tt), .second, vJ (tm v1_266 (1 : Int32) fr tt), .second, vJ (tm v1_269 (2 : Int32) fr tt), .second, vJ (tm v1_272 (3 : Int32) fr tt), .second, vJ (tm v1_275 (4 : Int32) fr tt), .second, vJ (tm v1_278 (5 : Int32) fr tt), .second, vJ (-1), .second] [(.int (1 : Int32))]))
          exact Go.retV X_303 hx hlk hret rfl (Or.inl ⟨rfl, Or.inr (Or.inl rfl), _, rfl⟩) (hb hby at_285) (by decide) (by decide) (by rw [e_303]; exact ⟨rfl, N_303⟩)
        · skip
          refine Go.step (fun _ k => XS.ifNo X_303.here hx rfl (hb hby at_221) rfl ((if0 _ _).trans (flt (fun q => w2 ((lw_lt _ _).mp q))).1) k) ?_
          show Go p e below _ (T_303.setTop (mkF m 224 #[vJ p0, .second, vJ p1, .second, vJ p2, .second, vI p3, vI p4, vR b262, vI fr, vI tt, vR b281, vJ (rdF (sel v1_263 v1_266 v1_269 v1_272 v1_275 v1_278) tt 6 fr (0 : Int64)), .second, vJ (tm v1_263 (0 : Int32) fr tt), .second, vJ (tm v1_266 (1 : Int32) fr tt), .second, vJ (tm v1_269 (2 : Int32) fr tt), .second, vJ (tm v1_272 (3 : Int32) fr tt), .second, vJ (tm v1_275 (4 : Int32) fr tt), .second, vJ (tm v1_278 (5 : Int32) fr tt), .second, vU, vU] []))
          refine Go.step (fun _ k => XS.lload X_303.here hx rfl (hb hby at_224) rfl  k) ?_
          refine Go.step (fun _ k => XS.lconst X_303.here hx rfl (hb hby at_226) k) ?_
          show Go p e below _ (T_303.setTop (mkF m 227 #[vJ p0, .second, vJ p1, .second, vJ p2, .second, vI p3, vI p4, vR b262, vI fr, vI tt, vR b281, vJ (rdF (sel v1_263 v1_266 v1_269 v1_272 v1_275 v1_278) tt 6 fr (0 : Int64)), .second, vJ (tm v1_263 (0 : Int32) fr tt), .second, vJ (tm v1_266 (1 : Int32) fr tt), .second, vJ (tm v1_269 (2 : Int32) fr tt), .second, vJ (tm v1_272 (3 : Int32) fr tt), .second, vJ (tm v1_275 (4 : Int32) fr tt), .second, vJ (tm v1_278 (5 : Int32) fr tt), .second, vU, vU] [(.long (0 : Int64)), (.long (tm v1_272 (3 : Int32) fr tt))]))
          refine Go.step (fun _ k => XS.lcmp X_303.here hx rfl (hb hby at_227) rfl k) ?_
          show Go p e below _ (T_303.setTop (mkF m 228 #[vJ p0, .second, vJ p1, .second, vJ p2, .second, vI p3, vI p4, vR b262, vI fr, vI tt, vR b281, vJ (rdF (sel v1_263 v1_266 v1_269 v1_272 v1_275 v1_278) tt 6 fr (0 : Int64)), .second, vJ (tm v1_263 (0 : Int32) fr tt), .second, vJ (tm v1_266 (1 : Int32) fr tt), .second, vJ (tm v1_269 (2 : Int32) fr tt), .second, vJ (tm v1_272 (3 : Int32) fr tt), .second, vJ (tm v1_275 (4 : Int32) fr tt), .second, vJ (tm v1_278 (5 : Int32) fr tt), .second, vU, vU] [(.int (lcmpW (tm v1_272 (3 : Int32) fr tt) (0 : Int64)))]))
          by_cases w3 : (tm v1_272 (3 : Int32) fr tt) < (0 : Int64)
          · skip
            refine Go.step (fun _ k => XS.ifYes X_303.here hx rfl (pc0 := 228) (pc' := 245) rfl (hb hby at_228) rfl ((if0 _ _).trans (tlt ((lw_lt _ _).mpr w3)).1) (by decide) (by decide) k) ?_
            show Go p e below _ (T_303.setTop (mkF m 245 #[vJ p0, .second, vJ p1, .second, vJ p2, .second, vI p3, vI p4, vR b262, vI fr, vI tt, vR b281, vJ (rdF (sel v1_263 v1_266 v1_269 v1_272 v1_275 v1_278) tt 6 fr (0 : Int64)), .second, vJ (tm v1_263 (0 : Int32) fr tt), .second, vJ (tm v1_266 (1 : Int32) fr tt), .second, vJ (tm v1_269 (2 : Int32) fr tt), .second, vJ (tm v1_272 (3 : Int32) fr tt), .second, vJ (tm v1_275 (4 : Int32) fr tt), .second, vJ (tm v1_278 (5 : Int32) fr tt), .second, vU, vU] []))
            refine Go.step (fun _ k => X_303.ldc2Long hx hown (mvT hZ (wd_93 hw)) (g := (mkF m 245 #[vJ p0, .second, vJ p1, .second, vJ p2, .second, vI p3, vI p4, vR b262, vI fr, vI tt, vR b281, vJ (rdF (sel v1_263 v1_266 v1_269 v1_272 v1_275 v1_278) tt 6 fr (0 : Int64)), .second, vJ (tm v1_263 (0 : Int32) fr tt), .second, vJ (tm v1_266 (1 : Int32) fr tt), .second, vJ (tm v1_269 (2 : Int32) fr tt), .second, vJ (tm v1_272 (3 : Int32) fr tt), .second, vJ (tm v1_275 (4 : Int32) fr tt), .second, vJ (tm v1_278 (5 : Int32) fr tt), .second, vU, vU] [])) rfl (hb hby at_245) _ k) ?_
            show Go p e below _ (T_303.setTop (mkF m 248 #[vJ p0, .second, vJ p1, .second, vJ p2, .second, vI p3, vI p4, vR b262, vI fr, vI tt, vR b281, vJ (rdF (sel v1_263 v1_266 v1_269 v1_272 v1_275 v1_278) tt 6 fr (0 : Int64)), .second, vJ (tm v1_263 (0 : Int32) fr tt), .second, vJ (tm v1_266 (1 : Int32) fr tt), .second, vJ (tm v1_269 (2 : Int32) fr tt), .second, vJ (tm v1_272 (3 : Int32) fr tt), .second, vJ (tm v1_275 (4 : Int32) fr tt), .second, vJ (tm v1_278 (5 : Int32) fr tt), .second, vU, vU] [(.long (-1 : Int64))]))
            refine Go.step (fun _ k => XS.lstore X_303.here hx rfl (hb hby at_248) rfl (l' := #[vJ p0, .second, vJ p1, .second, vJ p2, .second, vI p3, vI p4, vR b262, vI fr, vI tt, vR b281, vJ (rdF (sel v1_263 v1_266 v1_269 v1_272 v1_275 v1_278) tt 6 fr (0 : Int64)), .second, vJ (tm v1_263 (0 : Int32) fr tt), .second, vJ (tm v1_266 (1 : Int32) fr tt), .second, vJ (tm v1_269 (2 : Int32) fr tt), .second, vJ (tm v1_272 (3 : Int32) fr tt), .second, vJ (tm v1_275 (4 : Int32) fr tt), .second, vJ (tm v1_278 (5 : Int32) fr tt), .second, vJ (-1), .second]) rfl k) ?_
            show Go p e below _ (T_303.setTop (mkF m 250 #[vJ p0, .second, vJ p1, .second, vJ p2, .second, vI p3, vI p4, vR b262, vI fr, vI tt, vR b281, vJ (rdF (sel v1_263 v1_266 v1_269 v1_272 v1_275 v1_278) tt 6 fr (0 : Int64)), .second, vJ (tm v1_263 (0 : Int32) fr tt), .second, vJ (tm v1_266 (1 : Int32) fr tt), .second, vJ (tm v1_269 (2 : Int32) fr tt), .second, vJ (tm v1_272 (3 : Int32) fr tt), .second, vJ (tm v1_275 (4 : Int32) fr tt), .second, vJ (tm v1_278 (5 : Int32) fr tt), .second, vJ (-1), .second] []))
            refine Go.step (fun _ k => XS.goto X_303.here hx rfl (pc0 := 250) (pc' := 272) rfl (hb hby at_250) (by decide) (by decide) k) ?_
            show Go p e below _ (T_303.setTop (mkF m 272 #[vJ p0, .second, vJ p1, .second, vJ p2, .second, vI p3, vI p4, vR b262, vI fr, vI tt, vR b281, vJ (rdF (sel v1_263 v1_266 v1_269 v1_272 v1_275 v1_278) tt 6 fr (0 : Int64)), .second, vJ (tm v1_263 (0 : Int32) fr tt), .second, vJ (tm v1_266 (1 : Int32) fr tt), .second, vJ (tm v1_269 (2 : Int32) fr tt), .second, vJ (tm v1_272 (3 : Int32) fr tt), .second, vJ (tm v1_275 (4 : Int32) fr tt), .second, vJ (tm v1_278 (5 : Int32) fr tt), .second, vJ (-1), .second] []))
            refine Go.step (fun _ k => XS.lload X_303.here hx rfl (hb hby at_272) rfl  k) ?_
            refine Go.step (fun _ k => XS.lload X_303.here hx rfl (hb hby at_274) rfl  k) ?_
            show Go p e below _ (T_303.setTop (mkF m 276 #[vJ p0, .second, vJ p1, .second, vJ p2, .second, vI p3, vI p4, vR b262, vI fr, vI tt, vR b281, vJ (rdF (sel v1_263 v1_266 v1_269 v1_272 v1_275 v1_278) tt 6 fr (0 : Int64)), .second, vJ (tm v1_263 (0 : Int32) fr tt), .second, vJ (tm v1_266 (1 : Int32) fr tt), .second, vJ (tm v1_269 (2 : Int32) fr tt), .second, vJ (tm v1_272 (3 : Int32) fr tt), .second, vJ (tm v1_275 (4 : Int32) fr tt), .second, vJ (tm v1_278 (5 : Int32) fr tt), .second, vJ (-1), .second] [(.long (-1 : Int64)), (.long (rdF (sel v1_263 v1_266 v1_269 v1_272 v1_275 v1_278) tt 6 fr (0 : Int64)))]))
            refine Go.step (fun _ k => XS.lcmp X_303.here hx rfl (hb hby at_276) rfl k) ?_
            show Go p e below _ (T_303.setTop (mkF m 277 #[vJ p0, .second, vJ p1, .second, vJ p2, .second, vI p3, vI p4, vR b262, vI fr, vI tt, vR b281, vJ (rdF (sel v1_263 v1_266 v1_269 v1_272 v1_275 v1_278) tt 6 fr (0 : Int64)), .second, vJ (tm v1_263 (0 : Int32) fr tt), .second, vJ (tm v1_266 (1 : Int32) fr tt), .second, vJ (tm v1_269 (2 : Int32) fr tt), .second, vJ (tm v1_272 (3 : Int32) fr tt), .second, vJ (tm v1_275 (4 : Int32) fr tt), .second, vJ (tm v1_278 (5 : Int32) fr tt), .second, vJ (-1), .second] [(.int (lcmpW (rdF (sel v1_263 v1_266 v1_269 v1_272 v1_275 v1_278) tt 6 fr (0 : Int64)) (-1 : Int64)))]))
            refine Go.step (fun _ k => XS.ifNo X_303.here hx rfl (hb hby at_277) rfl ((if0 _ _).trans (teq ((lw_eq _ _).mpr ((math3 hh0 hh1 hh2 hh3 hh4 hh5 h_ft w0 w1 w2 w3) : (rdF (sel v1_263 v1_266 v1_269 v1_272 v1_275 v1_278) tt 6 fr (0 : Int64)) = (-1 : Int64)))).2) k) ?_
            show Go p e below _ (T_303.setTop (mkF m 280 #[vJ p0, .second, vJ p1, .second, vJ p2, .second, vI p3, vI p4, vR b262, vI fr, vI tt, vR b281, vJ (rdF (sel v1_263 v1_266 v1_269 v1_272 v1_275 v1_278) tt 6 fr (0 : Int64)), .second, vJ (tm v1_263 (0 : Int32) fr tt), .second, vJ (tm v1_266 (1 : Int32) fr tt), .second, vJ (tm v1_269 (2 : Int32) fr tt), .second, vJ (tm v1_272 (3 : Int32) fr tt), .second, vJ (tm v1_275 (4 : Int32) fr tt), .second, vJ (tm v1_278 (5 : Int32) fr tt), .second, vJ (-1), .second] []))
            refine Go.step (fun _ k => XS.iconst X_303.here hx rfl (hb hby at_280) k) ?_
            show Go p e below _ (T_303.setTop (mkF m 281 #[vJ p0, .second, vJ p1, .second, vJ p2, .second, vI p3, vI p4, vR b262, vI fr, vI tt, vR b281, vJ (rdF (sel v1_263 v1_266 v1_269 v1_272 v1_275 v1_278) tt 6 fr (0 : Int64)), .second, vJ (tm v1_263 (0 : Int32) fr tt), .second, vJ (tm v1_266 (1 : Int32) fr tt), .second, vJ (tm v1_269 (2 : Int32) fr tt), .second, vJ (tm v1_272 (3 : Int32) fr tt), .second, vJ (tm v1_275 (4 : Int32) fr tt), .second, vJ (tm v1_278 (5 : Int32) fr tt), .second, vJ (-1), .second] [(.int (1 : Int32))]))
            refine Go.step (fun _ k => XS.goto X_303.here hx rfl (pc0 := 281) (pc' := 285) rfl (hb hby at_281) (by decide) (by decide) k) ?_
            show Go p e below _ (T_303.setTop (mkF m 285 #[vJ p0, .second, vJ p1, .second, vJ p2, .second, vI p3, vI p4, vR b262, vI fr, vI tt, vR b281, vJ (rdF (sel v1_263 v1_266 v1_269 v1_272 v1_275 v1_278) tt 6 fr (0 : Int64)), .second, vJ (tm v1_263 (0 : Int32) fr tt), .second, vJ (tm v1_266 (1 : Int32) fr tt), .second, vJ (tm v1_269 (2 : Int32) fr tt), .second, vJ (tm v1_272 (3 : Int32) fr tt), .second, vJ (tm v1_275 (4 : Int32) fr tt), .second, vJ (tm v1_278 (5 : Int32) fr tt), .second, vJ (-1), .second] [(.int (1 : Int32))]))
            exact Go.retV X_303 hx hlk hret rfl (Or.inl ⟨rfl, Or.inr (Or.inl rfl), _, rfl⟩) (hb hby at_285) (by decide) (by decide) (by rw [e_303]; exact ⟨rfl, N_303⟩)
          · skip
            refine Go.step (fun _ k => XS.ifNo X_303.here hx rfl (hb hby at_228) rfl ((if0 _ _).trans (flt (fun q => w3 ((lw_lt _ _).mp q))).1) k) ?_
            show Go p e below _ (T_303.setTop (mkF m 231 #[vJ p0, .second, vJ p1, .second, vJ p2, .second, vI p3, vI p4, vR b262, vI fr, vI tt, vR b281, vJ (rdF (sel v1_263 v1_266 v1_269 v1_272 v1_275 v1_278) tt 6 fr (0 : Int64)), .second, vJ (tm v1_263 (0 : Int32) fr tt), .second, vJ (tm v1_266 (1 : Int32) fr tt), .second, vJ (tm v1_269 (2 : Int32) fr tt), .second, vJ (tm v1_272 (3 : Int32) fr tt), .second, vJ (tm v1_275 (4 : Int32) fr tt), .second, vJ (tm v1_278 (5 : Int32) fr tt), .second, vU, vU] []))
            refine Go.step (fun _ k => XS.lload X_303.here hx rfl (hb hby at_231) rfl  k) ?_
            refine Go.step (fun _ k => XS.lconst X_303.here hx rfl (hb hby at_233) k) ?_
            show Go p e below _ (T_303.setTop (mkF m 234 #[vJ p0, .second, vJ p1, .second, vJ p2, .second, vI p3, vI p4, vR b262, vI fr, vI tt, vR b281, vJ (rdF (sel v1_263 v1_266 v1_269 v1_272 v1_275 v1_278) tt 6 fr (0 : Int64)), .second, vJ (tm v1_263 (0 : Int32) fr tt), .second, vJ (tm v1_266 (1 : Int32) fr tt), .second, vJ (tm v1_269 (2 : Int32) fr tt), .second, vJ (tm v1_272 (3 : Int32) fr tt), .second, vJ (tm v1_275 (4 : Int32) fr tt), .second, vJ (tm v1_278 (5 : Int32) fr tt), .second, vU, vU] [(.long (0 : Int64)), (.long (tm v1_275 (4 : Int32) fr tt))]))
            refine Go.step (fun _ k => XS.lcmp X_303.here hx rfl (hb hby at_234) rfl k) ?_
            show Go p e below _ (T_303.setTop (mkF m 235 #[vJ p0, .second, vJ p1, .second, vJ p2, .second, vI p3, vI p4, vR b262, vI fr, vI tt, vR b281, vJ (rdF (sel v1_263 v1_266 v1_269 v1_272 v1_275 v1_278) tt 6 fr (0 : Int64)), .second, vJ (tm v1_263 (0 : Int32) fr tt), .second, vJ (tm v1_266 (1 : Int32) fr tt), .second, vJ (tm v1_269 (2 : Int32) fr tt), .second, vJ (tm v1_272 (3 : Int32) fr tt), .second, vJ (tm v1_275 (4 : Int32) fr tt), .second, vJ (tm v1_278 (5 : Int32) fr tt), .second, vU, vU] [(.int (lcmpW (tm v1_275 (4 : Int32) fr tt) (0 : Int64)))]))
            by_cases w4 : (tm v1_275 (4 : Int32) fr tt) < (0 : Int64)
            · skip
              refine Go.step (fun _ k => XS.ifYes X_303.here hx rfl (pc0 := 235) (pc' := 245) rfl (hb hby at_235) rfl ((if0 _ _).trans (tlt ((lw_lt _ _).mpr w4)).1) (by decide) (by decide) k) ?_
              show Go p e below _ (T_303.setTop (mkF m 245 #[vJ p0, .second, vJ p1, .second, vJ p2, .second, vI p3, vI p4, vR b262, vI fr, vI tt, vR b281, vJ (rdF (sel v1_263 v1_266 v1_269 v1_272 v1_275 v1_278) tt 6 fr (0 : Int64)), .second, vJ (tm v1_263 (0 : Int32) fr tt), .second, vJ (tm v1_266 (1 : Int32) fr tt), .second, vJ (tm v1_269 (2 : Int32) fr tt), .second, vJ (tm v1_272 (3 : Int32) fr tt), .second, vJ (tm v1_275 (4 : Int32) fr tt), .second, vJ (tm v1_278 (5 : Int32) fr tt), .second, vU, vU] []))
              refine Go.step (fun _ k => X_303.ldc2Long hx hown (mvT hZ (wd_93 hw)) (g := (mkF m 245 #[vJ p0, .second, vJ p1, .second, vJ p2, .second, vI p3, vI p4, vR b262, vI fr, vI tt, vR b281, vJ (rdF (sel v1_263 v1_266 v1_269 v1_272 v1_275 v1_278) tt 6 fr (0 : Int64)), .second, vJ (tm v1_263 (0 : Int32) fr tt), .second, vJ (tm v1_266 (1 : Int32) fr tt), .second, vJ (tm v1_269 (2 : Int32) fr tt), .second, vJ (tm v1_272 (3 : Int32) fr tt), .second, vJ (tm v1_275 (4 : Int32) fr tt), .second, vJ (tm v1_278 (5 : Int32) fr tt), .second, vU, vU] [])) rfl (hb hby at_245) _ k) ?_
              show Go p e below _ (T_303.setTop (mkF m 248 #[vJ p0, .second, vJ p1, .second, vJ p2, .second, vI p3, vI p4, vR b262, vI fr, vI tt, vR b281, vJ (rdF (sel v1_263 v1_266 v1_269 v1_272 v1_275 v1_278) tt 6 fr (0 : Int64)), .second, vJ (tm v1_263 (0 : Int32) fr tt), .second, vJ (tm v1_266 (1 : Int32) fr tt), .second, vJ (tm v1_269 (2 : Int32) fr tt), .second, vJ (tm v1_272 (3 : Int32) fr tt), .second, vJ (tm v1_275 (4 : Int32) fr tt), .second, vJ (tm v1_278 (5 : Int32) fr tt), .second, vU, vU] [(.long (-1 : Int64))]))
              refine Go.step (fun _ k => XS.lstore X_303.here hx rfl (hb hby at_248) rfl (l' := #[vJ p0, .second, vJ p1, .second, vJ p2, .second, vI p3, vI p4, vR b262, vI fr, vI tt, vR b281, vJ (rdF (sel v1_263 v1_266 v1_269 v1_272 v1_275 v1_278) tt 6 fr (0 : Int64)), .second, vJ (tm v1_263 (0 : Int32) fr tt), .second, vJ (tm v1_266 (1 : Int32) fr tt), .second, vJ (tm v1_269 (2 : Int32) fr tt), .second, vJ (tm v1_272 (3 : Int32) fr tt), .second, vJ (tm v1_275 (4 : Int32) fr tt), .second, vJ (tm v1_278 (5 : Int32) fr tt), .second, vJ (-1), .second]) rfl k) ?_
              show Go p e below _ (T_303.setTop (mkF m 250 #[vJ p0, .second, vJ p1, .second, vJ p2, .second, vI p3, vI p4, vR b262, vI fr, vI tt, vR b281, vJ (rdF (sel v1_263 v1_266 v1_269 v1_272 v1_275 v1_278) tt 6 fr (0 : Int64)), .second, vJ (tm v1_263 (0 : Int32) fr tt), .second, vJ (tm v1_266 (1 : Int32) fr tt), .second, vJ (tm v1_269 (2 : Int32) fr tt), .second, vJ (tm v1_272 (3 : Int32) fr tt), .second, vJ (tm v1_275 (4 : Int32) fr tt), .second, vJ (tm v1_278 (5 : Int32) fr tt), .second, vJ (-1), .second] []))
              refine Go.step (fun _ k => XS.goto X_303.here hx rfl (pc0 := 250) (pc' := 272) rfl (hb hby at_250) (by decide) (by decide) k) ?_
              show Go p e below _ (T_303.setTop (mkF m 272 #[vJ p0, .second, vJ p1, .second, vJ p2, .second, vI p3, vI p4, vR b262, vI fr, vI tt, vR b281, vJ (rdF (sel v1_263 v1_266 v1_269 v1_272 v1_275 v1_278) tt 6 fr (0 : Int64)), .second, vJ (tm v1_263 (0 : Int32) fr tt), .second, vJ (tm v1_266 (1 : Int32) fr tt), .second, vJ (tm v1_269 (2 : Int32) fr tt), .second, vJ (tm v1_272 (3 : Int32) fr tt), .second, vJ (tm v1_275 (4 : Int32) fr tt), .second, vJ (tm v1_278 (5 : Int32) fr tt), .second, vJ (-1), .second] []))
              refine Go.step (fun _ k => XS.lload X_303.here hx rfl (hb hby at_272) rfl  k) ?_
              refine Go.step (fun _ k => XS.lload X_303.here hx rfl (hb hby at_274) rfl  k) ?_
              show Go p e below _ (T_303.setTop (mkF m 276 #[vJ p0, .second, vJ p1, .second, vJ p2, .second, vI p3, vI p4, vR b262, vI fr, vI tt, vR b281, vJ (rdF (sel v1_263 v1_266 v1_269 v1_272 v1_275 v1_278) tt 6 fr (0 : Int64)), .second, vJ (tm v1_263 (0 : Int32) fr tt), .second, vJ (tm v1_266 (1 : Int32) fr tt), .second, vJ (tm v1_269 (2 : Int32) fr tt), .second, vJ (tm v1_272 (3 : Int32) fr tt), .second, vJ (tm v1_275 (4 : Int32) fr tt), .second, vJ (tm v1_278 (5 : Int32) fr tt), .second, vJ (-1), .second] [(.long (-1 : Int64)), (.long (rdF (sel v1_263 v1_266 v1_269 v1_272 v1_275 v1_278) tt 6 fr (0 : Int64)))]))
              refine Go.step (fun _ k => XS.lcmp X_303.here hx rfl (hb hby at_276) rfl k) ?_
              show Go p e below _ (T_303.setTop (mkF m 277 #[vJ p0, .second, vJ p1, .second, vJ p2, .second, vI p3, vI p4, vR b262, vI fr, vI tt, vR b281, vJ (rdF (sel v1_263 v1_266 v1_269 v1_272 v1_275 v1_278) tt 6 fr (0 : Int64)), .second, vJ (tm v1_263 (0 : Int32) fr tt), .second, vJ (tm v1_266 (1 : Int32) fr tt), .second, vJ (tm v1_269 (2 : Int32) fr tt), .second, vJ (tm v1_272 (3 : Int32) fr tt), .second, vJ (tm v1_275 (4 : Int32) fr tt), .second, vJ (tm v1_278 (5 : Int32) fr tt), .second, vJ (-1), .second] [(.int (lcmpW (rdF (sel v1_263 v1_266 v1_269 v1_272 v1_275 v1_278) tt 6 fr (0 : Int64)) (-1 : Int64)))]))
              refine Go.step (fun _ k => XS.ifNo X_303.here hx rfl (hb hby at_277) rfl ((if0 _ _).trans (teq ((lw_eq _ _).mpr ((math4 hh0 hh1 hh2 hh3 hh4 hh5 h_ft w0 w1 w2 w3 w4) : (rdF (sel v1_263 v1_266 v1_269 v1_272 v1_275 v1_278) tt 6 fr (0 : Int64)) = (-1 : Int64)))).2) k) ?_
              show Go p e below _ (T_303.setTop (mkF m 280 #[vJ p0, .second, vJ p1, .second, vJ p2, .second, vI p3, vI p4, vR b262, vI fr, vI tt, vR b281, vJ (rdF (sel v1_263 v1_266 v1_269 v1_272 v1_275 v1_278) tt 6 fr (0 : Int64)), .second, vJ (tm v1_263 (0 : Int32) fr tt), .second, vJ (tm v1_266 (1 : Int32) fr tt), .second, vJ (tm v1_269 (2 : Int32) fr tt), .second, vJ (tm v1_272 (3 : Int32) fr tt), .second, vJ (tm v1_275 (4 : Int32) fr tt), .second, vJ (tm v1_278 (5 : Int32) fr tt), .second, vJ (-1), .second] []))
              refine Go.step (fun _ k => XS.iconst X_303.here hx rfl (hb hby at_280) k) ?_
              show Go p e below _ (T_303.setTop (mkF m 281 #[vJ p0, .second, vJ p1, .second, vJ p2, .second, vI p3, vI p4, vR b262, vI fr, vI tt, vR b281, vJ (rdF (sel v1_263 v1_266 v1_269 v1_272 v1_275 v1_278) tt 6 fr (0 : Int64)), .second, vJ (tm v1_263 (0 : Int32) fr tt), .second, vJ (tm v1_266 (1 : Int32) fr tt), .second, vJ (tm v1_269 (2 : Int32) fr tt), .second, vJ (tm v1_272 (3 : Int32) fr tt), .second, vJ (tm v1_275 (4 : Int32) fr tt), .second, vJ (tm v1_278 (5 : Int32) fr tt), .second, vJ (-1), .second] [(.int (1 : Int32))]))
              refine Go.step (fun _ k => XS.goto X_303.here hx rfl (pc0 := 281) (pc' := 285) rfl (hb hby at_281) (by decide) (by decide) k) ?_
              show Go p e below _ (T_303.setTop (mkF m 285 #[vJ p0, .second, vJ p1, .second, vJ p2, .second, vI p3, vI p4, vR b262, vI fr, vI tt, vR b281, vJ (rdF (sel v1_263 v1_266 v1_269 v1_272 v1_275 v1_278) tt 6 fr (0 : Int64)), .second, vJ (tm v1_263 (0 : Int32) fr tt), .second, vJ (tm v1_266 (1 : Int32) fr tt), .second, vJ (tm v1_269 (2 : Int32) fr tt), .second, vJ (tm v1_272 (3 : Int32) fr tt), .second, vJ (tm v1_275 (4 : Int32) fr tt), .second, vJ (tm v1_278 (5 : Int32) fr tt), .second, vJ (-1), .second] [(.int (1 : Int32))]))
              exact Go.retV X_303 hx hlk hret rfl (Or.inl ⟨rfl, Or.inr (Or.inl rfl), _, rfl⟩) (hb hby at_285) (by decide) (by decide) (by rw [e_303]; exact ⟨rfl, N_303⟩)
            · skip
              refine Go.step (fun _ k => XS.ifNo X_303.here hx rfl (hb hby at_235) rfl ((if0 _ _).trans (flt (fun q => w4 ((lw_lt _ _).mp q))).1) k) ?_
              show Go p e below _ (T_303.setTop (mkF m 238 #[vJ p0, .second, vJ p1, .second, vJ p2, .second, vI p3, vI p4, vR b262, vI fr, vI tt, vR b281, vJ (rdF (sel v1_263 v1_266 v1_269 v1_272 v1_275 v1_278) tt 6 fr (0 : Int64)), .second, vJ (tm v1_263 (0 : Int32) fr tt), .second, vJ (tm v1_266 (1 : Int32) fr tt), .second, vJ (tm v1_269 (2 : Int32) fr tt), .second, vJ (tm v1_272 (3 : Int32) fr tt), .second, vJ (tm v1_275 (4 : Int32) fr tt), .second, vJ (tm v1_278 (5 : Int32) fr tt), .second, vU, vU] []))
              refine Go.step (fun _ k => XS.lload X_303.here hx rfl (hb hby at_238) rfl  k) ?_
              refine Go.step (fun _ k => XS.lconst X_303.here hx rfl (hb hby at_240) k) ?_
              show Go p e below _ (T_303.setTop (mkF m 241 #[vJ p0, .second, vJ p1, .second, vJ p2, .second, vI p3, vI p4, vR b262, vI fr, vI tt, vR b281, vJ (rdF (sel v1_263 v1_266 v1_269 v1_272 v1_275 v1_278) tt 6 fr (0 : Int64)), .second, vJ (tm v1_263 (0 : Int32) fr tt), .second, vJ (tm v1_266 (1 : Int32) fr tt), .second, vJ (tm v1_269 (2 : Int32) fr tt), .second, vJ (tm v1_272 (3 : Int32) fr tt), .second, vJ (tm v1_275 (4 : Int32) fr tt), .second, vJ (tm v1_278 (5 : Int32) fr tt), .second, vU, vU] [(.long (0 : Int64)), (.long (tm v1_278 (5 : Int32) fr tt))]))
              refine Go.step (fun _ k => XS.lcmp X_303.here hx rfl (hb hby at_241) rfl k) ?_
              show Go p e below _ (T_303.setTop (mkF m 242 #[vJ p0, .second, vJ p1, .second, vJ p2, .second, vI p3, vI p4, vR b262, vI fr, vI tt, vR b281, vJ (rdF (sel v1_263 v1_266 v1_269 v1_272 v1_275 v1_278) tt 6 fr (0 : Int64)), .second, vJ (tm v1_263 (0 : Int32) fr tt), .second, vJ (tm v1_266 (1 : Int32) fr tt), .second, vJ (tm v1_269 (2 : Int32) fr tt), .second, vJ (tm v1_272 (3 : Int32) fr tt), .second, vJ (tm v1_275 (4 : Int32) fr tt), .second, vJ (tm v1_278 (5 : Int32) fr tt), .second, vU, vU] [(.int (lcmpW (tm v1_278 (5 : Int32) fr tt) (0 : Int64)))]))
              by_cases w5 : (tm v1_278 (5 : Int32) fr tt) < (0 : Int64)
              · skip
                refine Go.step (fun _ k => XS.ifNo X_303.here hx rfl (hb hby at_242) rfl ((if0 _ _).trans (tlt ((lw_lt _ _).mpr w5)).2.1) k) ?_
                show Go p e below _ (T_303.setTop (mkF m 245 #[vJ p0, .second, vJ p1, .second, vJ p2, .second, vI p3, vI p4, vR b262, vI fr, vI tt, vR b281, vJ (rdF (sel v1_263 v1_266 v1_269 v1_272 v1_275 v1_278) tt 6 fr (0 : Int64)), .second, vJ (tm v1_263 (0 : Int32) fr tt), .second, vJ (tm v1_266 (1 : Int32) fr tt), .second, vJ (tm v1_269 (2 : Int32) fr tt), .second, vJ (tm v1_272 (3 : Int32) fr tt), .second, vJ (tm v1_275 (4 : Int32) fr tt), .second, vJ (tm v1_278 (5 : Int32) fr tt), .second, vU, vU] []))
                refine Go.step (fun _ k => X_303.ldc2Long hx hown (mvT hZ (wd_93 hw)) (g := (mkF m 245 #[vJ p0, .second, vJ p1, .second, vJ p2, .second, vI p3, vI p4, vR b262, vI fr, vI tt, vR b281, vJ (rdF (sel v1_263 v1_266 v1_269 v1_272 v1_275 v1_278) tt 6 fr (0 : Int64)), .second, vJ (tm v1_263 (0 : Int32) fr tt), .second, vJ (tm v1_266 (1 : Int32) fr tt), .second, vJ (tm v1_269 (2 : Int32) fr tt), .second, vJ (tm v1_272 (3 : Int32) fr tt), .second, vJ (tm v1_275 (4 : Int32) fr tt), .second, vJ (tm v1_278 (5 : Int32) fr tt), .second, vU, vU] [])) rfl (hb hby at_245) _ k) ?_
                show Go p e below _ (T_303.setTop (mkF m 248 #[vJ p0, .second, vJ p1, .second, vJ p2, .second, vI p3, vI p4, vR b262, vI fr, vI tt, vR b281, vJ (rdF (sel v1_263 v1_266 v1_269 v1_272 v1_275 v1_278) tt 6 fr (0 : Int64)), .second, vJ (tm v1_263 (0 : Int32) fr tt), .second, vJ (tm v1_266 (1 : Int32) fr tt), .second, vJ (tm v1_269 (2 : Int32) fr tt), .second, vJ (tm v1_272 (3 : Int32) fr tt), .second, vJ (tm v1_275 (4 : Int32) fr tt), .second, vJ (tm v1_278 (5 : Int32) fr tt), .second, vU, vU] [(.long (-1 : Int64))]))
                refine Go.step (fun _ k => XS.lstore X_303.here hx rfl (hb hby at_248) rfl (l' := #[vJ p0, .second, vJ p1, .second, vJ p2, .second, vI p3, vI p4, vR b262, vI fr, vI tt, vR b281, vJ (rdF (sel v1_263 v1_266 v1_269 v1_272 v1_275 v1_278) tt 6 fr (0 : Int64)), .second, vJ (tm v1_263 (0 : Int32) fr tt), .second, vJ (tm v1_266 (1 : Int32) fr tt), .second, vJ (tm v1_269 (2 : Int32) fr tt), .second, vJ (tm v1_272 (3 : Int32) fr tt), .second, vJ (tm v1_275 (4 : Int32) fr tt), .second, vJ (tm v1_278 (5 : Int32) fr tt), .second, vJ (-1), .second]) rfl k) ?_
                show Go p e below _ (T_303.setTop (mkF m 250 #[vJ p0, .second, vJ p1, .second, vJ p2, .second, vI p3, vI p4, vR b262, vI fr, vI tt, vR b281, vJ (rdF (sel v1_263 v1_266 v1_269 v1_272 v1_275 v1_278) tt 6 fr (0 : Int64)), .second, vJ (tm v1_263 (0 : Int32) fr tt), .second, vJ (tm v1_266 (1 : Int32) fr tt), .second, vJ (tm v1_269 (2 : Int32) fr tt), .second, vJ (tm v1_272 (3 : Int32) fr tt), .second, vJ (tm v1_275 (4 : Int32) fr tt), .second, vJ (tm v1_278 (5 : Int32) fr tt), .second, vJ (-1), .second] []))
                refine Go.step (fun _ k => XS.goto X_303.here hx rfl (pc0 := 250) (pc' := 272) rfl (hb hby at_250) (by decide) (by decide) k) ?_
                show Go p e below _ (T_303.setTop (mkF m 272 #[vJ p0, .second, vJ p1, .second, vJ p2, .second, vI p3, vI p4, vR b262, vI fr, vI tt, vR b281, vJ (rdF (sel v1_263 v1_266 v1_269 v1_272 v1_275 v1_278) tt 6 fr (0 : Int64)), .second, vJ (tm v1_263 (0 : Int32) fr tt), .second, vJ (tm v1_266 (1 : Int32) fr tt), .second, vJ (tm v1_269 (2 : Int32) fr tt), .second, vJ (tm v1_272 (3 : Int32) fr tt), .second, vJ (tm v1_275 (4 : Int32) fr tt), .second, vJ (tm v1_278 (5 : Int32) fr tt), .second, vJ (-1), .second] []))
                refine Go.step (fun _ k => XS.lload X_303.here hx rfl (hb hby at_272) rfl  k) ?_
                refine Go.step (fun _ k => XS.lload X_303.here hx rfl (hb hby at_274) rfl  k) ?_
                show Go p e below _ (T_303.setTop (mkF m 276 #[vJ p0, .second, vJ p1, .second, vJ p2, .second, vI p3, vI p4, vR b262, vI fr, vI tt, vR b281, vJ (rdF (sel v1_263 v1_266 v1_269 v1_272 v1_275 v1_278) tt 6 fr (0 : Int64)), .second, vJ (tm v1_263 (0 : Int32) fr tt), .second, vJ (tm v1_266 (1 : Int32) fr tt), .second, vJ (tm v1_269 (2 : Int32) fr tt), .second, vJ (tm v1_272 (3 : Int32) fr tt), .second, vJ (tm v1_275 (4 : Int32) fr tt), .second, vJ (tm v1_278 (5 : Int32) fr tt), .second, vJ (-1), .second] [(.long (-1 : Int64)), (.long (rdF (sel v1_263 v1_266 v1_269 v1_272 v1_275 v1_278) tt 6 fr (0 : Int64)))]))
                refine Go.step (fun _ k => XS.lcmp X_303.here hx rfl (hb hby at_276) rfl k) ?_
                show Go p e below _ (T_303.setTop (mkF m 277 #[vJ p0, .second, vJ p1, .second, vJ p2, .second, vI p3, vI p4, vR b262, vI fr, vI tt, vR b281, vJ (rdF (sel v1_263 v1_266 v1_269 v1_272 v1_275 v1_278) tt 6 fr (0 : Int64)), .second, vJ (tm v1_263 (0 : Int32) fr tt), .second, vJ (tm v1_266 (1 : Int32) fr tt), .second, vJ (tm v1_269 (2 : Int32) fr tt), .second, vJ (tm v1_272 (3 : Int32) fr tt), .second, vJ (tm v1_275 (4 : Int32) fr tt), .second, vJ (tm v1_278 (5 : Int32) fr tt), .second, vJ (-1), .second] [(.int (lcmpW (rdF (sel v1_263 v1_266 v1_269 v1_272 v1_275 v1_278) tt 6 fr (0 : Int64)) (-1 : Int64)))]))
                refine Go.step (fun _ k => XS.ifNo X_303.here hx rfl (hb hby at_277) rfl ((if0 _ _).trans (teq ((lw_eq _ _).mpr ((math5 hh0 hh1 hh2 hh3 hh4 hh5 h_ft w0 w1 w2 w3 w4 w5) : (rdF (sel v1_263 v1_266 v1_269 v1_272 v1_275 v1_278) tt 6 fr (0 : Int64)) = (-1 : Int64)))).2) k) ?_
                show Go p e below _ (T_303.setTop (mkF m 280 #[vJ p0, .second, vJ p1, .second, vJ p2, .second, vI p3, vI p4, vR b262, vI fr, vI tt, vR b281, vJ (rdF (sel v1_263 v1_266 v1_269 v1_272 v1_275 v1_278) tt 6 fr (0 : Int64)), .second, vJ (tm v1_263 (0 : Int32) fr tt), .second, vJ (tm v1_266 (1 : Int32) fr tt), .second, vJ (tm v1_269 (2 : Int32) fr tt), .second, vJ (tm v1_272 (3 : Int32) fr tt), .second, vJ (tm v1_275 (4 : Int32) fr tt), .second, vJ (tm v1_278 (5 : Int32) fr tt), .second, vJ (-1), .second] []))
                refine Go.step (fun _ k => XS.iconst X_303.here hx rfl (hb hby at_280) k) ?_
                show Go p e below _ (T_303.setTop (mkF m 281 #[vJ p0, .second, vJ p1, .second, vJ p2, .second, vI p3, vI p4, vR b262, vI fr, vI tt, vR b281, vJ (rdF (sel v1_263 v1_266 v1_269 v1_272 v1_275 v1_278) tt 6 fr (0 : Int64)), .second, vJ (tm v1_263 (0 : Int32) fr tt), .second, vJ (tm v1_266 (1 : Int32) fr tt), .second, vJ (tm v1_269 (2 : Int32) fr tt), .second, vJ (tm v1_272 (3 : Int32) fr tt), .second, vJ (tm v1_275 (4 : Int32) fr tt), .second, vJ (tm v1_278 (5 : Int32) fr tt), .second, vJ (-1), .second] [(.int (1 : Int32))]))
                refine Go.step (fun _ k => XS.goto X_303.here hx rfl (pc0 := 281) (pc' := 285) rfl (hb hby at_281) (by decide) (by decide) k) ?_
                show Go p e below _ (T_303.setTop (mkF m 285 #[vJ p0, .second, vJ p1, .second, vJ p2, .second, vI p3, vI p4, vR b262, vI fr, vI tt, vR b281, vJ (rdF (sel v1_263 v1_266 v1_269 v1_272 v1_275 v1_278) tt 6 fr (0 : Int64)), .second, vJ (tm v1_263 (0 : Int32) fr tt), .second, vJ (tm v1_266 (1 : Int32) fr tt), .second, vJ (tm v1_269 (2 : Int32) fr tt), .second, vJ (tm v1_272 (3 : Int32) fr tt), .second, vJ (tm v1_275 (4 : Int32) fr tt), .second, vJ (tm v1_278 (5 : Int32) fr tt), .second, vJ (-1), .second] [(.int (1 : Int32))]))
                exact Go.retV X_303 hx hlk hret rfl (Or.inl ⟨rfl, Or.inr (Or.inl rfl), _, rfl⟩) (hb hby at_285) (by decide) (by decide) (by rw [e_303]; exact ⟨rfl, N_303⟩)
              · skip
                refine Go.step (fun _ k => XS.ifYes X_303.here hx rfl (pc0 := 242) (pc' := 253) rfl (hb hby at_242) rfl ((if0 _ _).trans (flt (fun q => w5 ((lw_lt _ _).mp q))).2.1) (by decide) (by decide) k) ?_
                show Go p e below _ (T_303.setTop (mkF m 253 #[vJ p0, .second, vJ p1, .second, vJ p2, .second, vI p3, vI p4, vR b262, vI fr, vI tt, vR b281, vJ (rdF (sel v1_263 v1_266 v1_269 v1_272 v1_275 v1_278) tt 6 fr (0 : Int64)), .second, vJ (tm v1_263 (0 : Int32) fr tt), .second, vJ (tm v1_266 (1 : Int32) fr tt), .second, vJ (tm v1_269 (2 : Int32) fr tt), .second, vJ (tm v1_272 (3 : Int32) fr tt), .second, vJ (tm v1_275 (4 : Int32) fr tt), .second, vJ (tm v1_278 (5 : Int32) fr tt), .second, vU, vU] []))
                refine Go.step (fun _ k => XS.lload X_303.here hx rfl (hb hby at_253) rfl  k) ?_
                refine Go.step (fun _ k => XS.lload X_303.here hx rfl (hb hby at_255) rfl  k) ?_
                show Go p e below _ (T_303.setTop (mkF m 257 #[vJ p0, .second, vJ p1, .second, vJ p2, .second, vI p3, vI p4, vR b262, vI fr, vI tt, vR b281, vJ (rdF (sel v1_263 v1_266 v1_269 v1_272 v1_275 v1_278) tt 6 fr (0 : Int64)), .second, vJ (tm v1_263 (0 : Int32) fr tt), .second, vJ (tm v1_266 (1 : Int32) fr tt), .second, vJ (tm v1_269 (2 : Int32) fr tt), .second, vJ (tm v1_272 (3 : Int32) fr tt), .second, vJ (tm v1_275 (4 : Int32) fr tt), .second, vJ (tm v1_278 (5 : Int32) fr tt), .second, vU, vU] [(.long (tm v1_266 (1 : Int32) fr tt)), (.long (tm v1_263 (0 : Int32) fr tt))]))
                refine Go.step (fun _ k => XS.ladd X_303.here hx rfl (hb hby at_257) rfl k) ?_
                show Go p e below _ (T_303.setTop (mkF m 258 #[vJ p0, .second, vJ p1, .second, vJ p2, .second, vI p3, vI p4, vR b262, vI fr, vI tt, vR b281, vJ (rdF (sel v1_263 v1_266 v1_269 v1_272 v1_275 v1_278) tt 6 fr (0 : Int64)), .second, vJ (tm v1_263 (0 : Int32) fr tt), .second, vJ (tm v1_266 (1 : Int32) fr tt), .second, vJ (tm v1_269 (2 : Int32) fr tt), .second, vJ (tm v1_272 (3 : Int32) fr tt), .second, vJ (tm v1_275 (4 : Int32) fr tt), .second, vJ (tm v1_278 (5 : Int32) fr tt), .second, vU, vU] [(.long ((tm v1_263 (0 : Int32) fr tt) + (tm v1_266 (1 : Int32) fr tt)))]))
                refine Go.step (fun _ k => XS.lload X_303.here hx rfl (hb hby at_258) rfl  k) ?_
                show Go p e below _ (T_303.setTop (mkF m 260 #[vJ p0, .second, vJ p1, .second, vJ p2, .second, vI p3, vI p4, vR b262, vI fr, vI tt, vR b281, vJ (rdF (sel v1_263 v1_266 v1_269 v1_272 v1_275 v1_278) tt 6 fr (0 : Int64)), .second, vJ (tm v1_263 (0 : Int32) fr tt), .second, vJ (tm v1_266 (1 : Int32) fr tt), .second, vJ (tm v1_269 (2 : Int32) fr tt), .second, vJ (tm v1_272 (3 : Int32) fr tt), .second, vJ (tm v1_275 (4 : Int32) fr tt), .second, vJ (tm v1_278 (5 : Int32) fr tt), .second, vU, vU] [(.long (tm v1_269 (2 : Int32) fr tt)), (.long ((tm v1_263 (0 : Int32) fr tt) + (tm v1_266 (1 : Int32) fr tt)))]))
                refine Go.step (fun _ k => XS.ladd X_303.here hx rfl (hb hby at_260) rfl k) ?_
                show Go p e below _ (T_303.setTop (mkF m 261 #[vJ p0, .second, vJ p1, .second, vJ p2, .second, vI p3, vI p4, vR b262, vI fr, vI tt, vR b281, vJ (rdF (sel v1_263 v1_266 v1_269 v1_272 v1_275 v1_278) tt 6 fr (0 : Int64)), .second, vJ (tm v1_263 (0 : Int32) fr tt), .second, vJ (tm v1_266 (1 : Int32) fr tt), .second, vJ (tm v1_269 (2 : Int32) fr tt), .second, vJ (tm v1_272 (3 : Int32) fr tt), .second, vJ (tm v1_275 (4 : Int32) fr tt), .second, vJ (tm v1_278 (5 : Int32) fr tt), .second, vU, vU] [(.long (((tm v1_263 (0 : Int32) fr tt) + (tm v1_266 (1 : Int32) fr tt)) + (tm v1_269 (2 : Int32) fr tt)))]))
                refine Go.step (fun _ k => XS.lload X_303.here hx rfl (hb hby at_261) rfl  k) ?_
                show Go p e below _ (T_303.setTop (mkF m 263 #[vJ p0, .second, vJ p1, .second, vJ p2, .second, vI p3, vI p4, vR b262, vI fr, vI tt, vR b281, vJ (rdF (sel v1_263 v1_266 v1_269 v1_272 v1_275 v1_278) tt 6 fr (0 : Int64)), .second, vJ (tm v1_263 (0 : Int32) fr tt), .second, vJ (tm v1_266 (1 : Int32) fr tt), .second, vJ (tm v1_269 (2 : Int32) fr tt), .second, vJ (tm v1_272 (3 : Int32) fr tt), .second, vJ (tm v1_275 (4 : Int32) fr tt), .second, vJ (tm v1_278 (5 : Int32) fr tt), .second, vU, vU] [(.long (tm v1_272 (3 : Int32) fr tt)), (.long (((tm v1_263 (0 : Int32) fr tt) + (tm v1_266 (1 : Int32) fr tt)) + (tm v1_269 (2 : Int32) fr tt)))]))
                refine Go.step (fun _ k => XS.ladd X_303.here hx rfl (hb hby at_263) rfl k) ?_
                show Go p e below _ (T_303.setTop (mkF m 264 #[vJ p0, .second, vJ p1, .second, vJ p2, .second, vI p3, vI p4, vR b262, vI fr, vI tt, vR b281, vJ (rdF (sel v1_263 v1_266 v1_269 v1_272 v1_275 v1_278) tt 6 fr (0 : Int64)), .second, vJ (tm v1_263 (0 : Int32) fr tt), .second, vJ (tm v1_266 (1 : Int32) fr tt), .second, vJ (tm v1_269 (2 : Int32) fr tt), .second, vJ (tm v1_272 (3 : Int32) fr tt), .second, vJ (tm v1_275 (4 : Int32) fr tt), .second, vJ (tm v1_278 (5 : Int32) fr tt), .second, vU, vU] [(.long ((((tm v1_263 (0 : Int32) fr tt) + (tm v1_266 (1 : Int32) fr tt)) + (tm v1_269 (2 : Int32) fr tt)) + (tm v1_272 (3 : Int32) fr tt)))]))
                refine Go.step (fun _ k => XS.lload X_303.here hx rfl (hb hby at_264) rfl  k) ?_
                show Go p e below _ (T_303.setTop (mkF m 266 #[vJ p0, .second, vJ p1, .second, vJ p2, .second, vI p3, vI p4, vR b262, vI fr, vI tt, vR b281, vJ (rdF (sel v1_263 v1_266 v1_269 v1_272 v1_275 v1_278) tt 6 fr (0 : Int64)), .second, vJ (tm v1_263 (0 : Int32) fr tt), .second, vJ (tm v1_266 (1 : Int32) fr tt), .second, vJ (tm v1_269 (2 : Int32) fr tt), .second, vJ (tm v1_272 (3 : Int32) fr tt), .second, vJ (tm v1_275 (4 : Int32) fr tt), .second, vJ (tm v1_278 (5 : Int32) fr tt), .second, vU, vU] [(.long (tm v1_275 (4 : Int32) fr tt)), (.long ((((tm v1_263 (0 : Int32) fr tt) + (tm v1_266 (1 : Int32) fr tt)) + (tm v1_269 (2 : Int32) fr tt)) + (tm v1_272 (3 : Int32) fr tt)))]))
                refine Go.step (fun _ k => XS.ladd X_303.here hx rfl (hb hby at_266) rfl k) ?_
                show Go p e below _ (T_303.setTop (mkF m 267 #[vJ p0, .second, vJ p1, .second, vJ p2, .second, vI p3, vI p4, vR b262, vI fr, vI tt, vR b281, vJ (rdF (sel v1_263 v1_266 v1_269 v1_272 v1_275 v1_278) tt 6 fr (0 : Int64)), .second, vJ (tm v1_263 (0 : Int32) fr tt), .second, vJ (tm v1_266 (1 : Int32) fr tt), .second, vJ (tm v1_269 (2 : Int32) fr tt), .second, vJ (tm v1_272 (3 : Int32) fr tt), .second, vJ (tm v1_275 (4 : Int32) fr tt), .second, vJ (tm v1_278 (5 : Int32) fr tt), .second, vU, vU] [(.long (((((tm v1_263 (0 : Int32) fr tt) + (tm v1_266 (1 : Int32) fr tt)) + (tm v1_269 (2 : Int32) fr tt)) + (tm v1_272 (3 : Int32) fr tt)) + (tm v1_275 (4 : Int32) fr tt)))]))
                refine Go.step (fun _ k => XS.lload X_303.here hx rfl (hb hby at_267) rfl  k) ?_
                show Go p e below _ (T_303.setTop (mkF m 269 #[vJ p0, .second, vJ p1, .second, vJ p2, .second, vI p3, vI p4, vR b262, vI fr, vI tt, vR b281, vJ (rdF (sel v1_263 v1_266 v1_269 v1_272 v1_275 v1_278) tt 6 fr (0 : Int64)), .second, vJ (tm v1_263 (0 : Int32) fr tt), .second, vJ (tm v1_266 (1 : Int32) fr tt), .second, vJ (tm v1_269 (2 : Int32) fr tt), .second, vJ (tm v1_272 (3 : Int32) fr tt), .second, vJ (tm v1_275 (4 : Int32) fr tt), .second, vJ (tm v1_278 (5 : Int32) fr tt), .second, vU, vU] [(.long (tm v1_278 (5 : Int32) fr tt)), (.long (((((tm v1_263 (0 : Int32) fr tt) + (tm v1_266 (1 : Int32) fr tt)) + (tm v1_269 (2 : Int32) fr tt)) + (tm v1_272 (3 : Int32) fr tt)) + (tm v1_275 (4 : Int32) fr tt)))]))
                refine Go.step (fun _ k => XS.ladd X_303.here hx rfl (hb hby at_269) rfl k) ?_
                show Go p e below _ (T_303.setTop (mkF m 270 #[vJ p0, .second, vJ p1, .second, vJ p2, .second, vI p3, vI p4, vR b262, vI fr, vI tt, vR b281, vJ (rdF (sel v1_263 v1_266 v1_269 v1_272 v1_275 v1_278) tt 6 fr (0 : Int64)), .second, vJ (tm v1_263 (0 : Int32) fr tt), .second, vJ (tm v1_266 (1 : Int32) fr tt), .second, vJ (tm v1_269 (2 : Int32) fr tt), .second, vJ (tm v1_272 (3 : Int32) fr tt), .second, vJ (tm v1_275 (4 : Int32) fr tt), .second, vJ (tm v1_278 (5 : Int32) fr tt), .second, vU, vU] [(.long ((((((tm v1_263 (0 : Int32) fr tt) + (tm v1_266 (1 : Int32) fr tt)) + (tm v1_269 (2 : Int32) fr tt)) + (tm v1_272 (3 : Int32) fr tt)) + (tm v1_275 (4 : Int32) fr tt)) + (tm v1_278 (5 : Int32) fr tt)))]))
                refine Go.step (fun _ k => XS.lstore X_303.here hx rfl (hb hby at_270) rfl (l' := #[vJ p0, .second, vJ p1, .second, vJ p2, .second, vI p3, vI p4, vR b262, vI fr, vI tt, vR b281, vJ (rdF (sel v1_263 v1_266 v1_269 v1_272 v1_275 v1_278) tt 6 fr (0 : Int64)), .second, vJ (tm v1_263 (0 : Int32) fr tt), .second, vJ (tm v1_266 (1 : Int32) fr tt), .second, vJ (tm v1_269 (2 : Int32) fr tt), .second, vJ (tm v1_272 (3 : Int32) fr tt), .second, vJ (tm v1_275 (4 : Int32) fr tt), .second, vJ (tm v1_278 (5 : Int32) fr tt), .second, vJ ((((((tm v1_263 (0 : Int32) fr tt) + (tm v1_266 (1 : Int32) fr tt)) + (tm v1_269 (2 : Int32) fr tt)) + (tm v1_272 (3 : Int32) fr tt)) + (tm v1_275 (4 : Int32) fr tt)) + (tm v1_278 (5 : Int32) fr tt)), .second]) rfl k) ?_
                show Go p e below _ (T_303.setTop (mkF m 272 #[vJ p0, .second, vJ p1, .second, vJ p2, .second, vI p3, vI p4, vR b262, vI fr, vI tt, vR b281, vJ (rdF (sel v1_263 v1_266 v1_269 v1_272 v1_275 v1_278) tt 6 fr (0 : Int64)), .second, vJ (tm v1_263 (0 : Int32) fr tt), .second, vJ (tm v1_266 (1 : Int32) fr tt), .second, vJ (tm v1_269 (2 : Int32) fr tt), .second, vJ (tm v1_272 (3 : Int32) fr tt), .second, vJ (tm v1_275 (4 : Int32) fr tt), .second, vJ (tm v1_278 (5 : Int32) fr tt), .second, vJ ((((((tm v1_263 (0 : Int32) fr tt) + (tm v1_266 (1 : Int32) fr tt)) + (tm v1_269 (2 : Int32) fr tt)) + (tm v1_272 (3 : Int32) fr tt)) + (tm v1_275 (4 : Int32) fr tt)) + (tm v1_278 (5 : Int32) fr tt)), .second] []))
                refine Go.step (fun _ k => XS.lload X_303.here hx rfl (hb hby at_272) rfl  k) ?_
                refine Go.step (fun _ k => XS.lload X_303.here hx rfl (hb hby at_274) rfl  k) ?_
                show Go p e below _ (T_303.setTop (mkF m 276 #[vJ p0, .second, vJ p1, .second, vJ p2, .second, vI p3, vI p4, vR b262, vI fr, vI tt, vR b281, vJ (rdF (sel v1_263 v1_266 v1_269 v1_272 v1_275 v1_278) tt 6 fr (0 : Int64)), .second, vJ (tm v1_263 (0 : Int32) fr tt), .second, vJ (tm v1_266 (1 : Int32) fr tt), .second, vJ (tm v1_269 (2 : Int32) fr tt), .second, vJ (tm v1_272 (3 : Int32) fr tt), .second, vJ (tm v1_275 (4 : Int32) fr tt), .second, vJ (tm v1_278 (5 : Int32) fr tt), .second, vJ ((((((tm v1_263 (0 : Int32) fr tt) + (tm v1_266 (1 : Int32) fr tt)) + (tm v1_269 (2 : Int32) fr tt)) + (tm v1_272 (3 : Int32) fr tt)) + (tm v1_275 (4 : Int32) fr tt)) + (tm v1_278 (5 : Int32) fr tt)), .second] [(.long ((((((tm v1_263 (0 : Int32) fr tt) + (tm v1_266 (1 : Int32) fr tt)) + (tm v1_269 (2 : Int32) fr tt)) + (tm v1_272 (3 : Int32) fr tt)) + (tm v1_275 (4 : Int32) fr tt)) + (tm v1_278 (5 : Int32) fr tt))), (.long (rdF (sel v1_263 v1_266 v1_269 v1_272 v1_275 v1_278) tt 6 fr (0 : Int64)))]))
                refine Go.step (fun _ k => XS.lcmp X_303.here hx rfl (hb hby at_276) rfl k) ?_
                show Go p e below _ (T_303.setTop (mkF m 277 #[vJ p0, .second, vJ p1, .second, vJ p2, .second, vI p3, vI p4, vR b262, vI fr, vI tt, vR b281, vJ (rdF (sel v1_263 v1_266 v1_269 v1_272 v1_275 v1_278) tt 6 fr (0 : Int64)), .second, vJ (tm v1_263 (0 : Int32) fr tt), .second, vJ (tm v1_266 (1 : Int32) fr tt), .second, vJ (tm v1_269 (2 : Int32) fr tt), .second, vJ (tm v1_272 (3 : Int32) fr tt), .second, vJ (tm v1_275 (4 : Int32) fr tt), .second, vJ (tm v1_278 (5 : Int32) fr tt), .second, vJ ((((((tm v1_263 (0 : Int32) fr tt) + (tm v1_266 (1 : Int32) fr tt)) + (tm v1_269 (2 : Int32) fr tt)) + (tm v1_272 (3 : Int32) fr tt)) + (tm v1_275 (4 : Int32) fr tt)) + (tm v1_278 (5 : Int32) fr tt)), .second] [(.int (lcmpW (rdF (sel v1_263 v1_266 v1_269 v1_272 v1_275 v1_278) tt 6 fr (0 : Int64)) ((((((tm v1_263 (0 : Int32) fr tt) + (tm v1_266 (1 : Int32) fr tt)) + (tm v1_269 (2 : Int32) fr tt)) + (tm v1_272 (3 : Int32) fr tt)) + (tm v1_275 (4 : Int32) fr tt)) + (tm v1_278 (5 : Int32) fr tt))))]))
                refine Go.step (fun _ k => XS.ifNo X_303.here hx rfl (hb hby at_277) rfl ((if0 _ _).trans (teq ((lw_eq _ _).mpr ((mathS hh0 hh1 hh2 hh3 hh4 hh5 h_ft w0 w1 w2 w3 w4 w5) : (rdF (sel v1_263 v1_266 v1_269 v1_272 v1_275 v1_278) tt 6 fr (0 : Int64)) = ((((((tm v1_263 (0 : Int32) fr tt) + (tm v1_266 (1 : Int32) fr tt)) + (tm v1_269 (2 : Int32) fr tt)) + (tm v1_272 (3 : Int32) fr tt)) + (tm v1_275 (4 : Int32) fr tt)) + (tm v1_278 (5 : Int32) fr tt))))).2) k) ?_
                show Go p e below _ (T_303.setTop (mkF m 280 #[vJ p0, .second, vJ p1, .second, vJ p2, .second, vI p3, vI p4, vR b262, vI fr, vI tt, vR b281, vJ (rdF (sel v1_263 v1_266 v1_269 v1_272 v1_275 v1_278) tt 6 fr (0 : Int64)), .second, vJ (tm v1_263 (0 : Int32) fr tt), .second, vJ (tm v1_266 (1 : Int32) fr tt), .second, vJ (tm v1_269 (2 : Int32) fr tt), .second, vJ (tm v1_272 (3 : Int32) fr tt), .second, vJ (tm v1_275 (4 : Int32) fr tt), .second, vJ (tm v1_278 (5 : Int32) fr tt), .second, vJ ((((((tm v1_263 (0 : Int32) fr tt) + (tm v1_266 (1 : Int32) fr tt)) + (tm v1_269 (2 : Int32) fr tt)) + (tm v1_272 (3 : Int32) fr tt)) + (tm v1_275 (4 : Int32) fr tt)) + (tm v1_278 (5 : Int32) fr tt)), .second] []))
                refine Go.step (fun _ k => XS.iconst X_303.here hx rfl (hb hby at_280) k) ?_
                show Go p e below _ (T_303.setTop (mkF m 281 #[vJ p0, .second, vJ p1, .second, vJ p2, .second, vI p3, vI p4, vR b262, vI fr, vI tt, vR b281, vJ (rdF (sel v1_263 v1_266 v1_269 v1_272 v1_275 v1_278) tt 6 fr (0 : Int64)), .second, vJ (tm v1_263 (0 : Int32) fr tt), .second, vJ (tm v1_266 (1 : Int32) fr tt), .second, vJ (tm v1_269 (2 : Int32) fr tt), .second, vJ (tm v1_272 (3 : Int32) fr tt), .second, vJ (tm v1_275 (4 : Int32) fr tt), .second, vJ (tm v1_278 (5 : Int32) fr tt), .second, vJ ((((((tm v1_263 (0 : Int32) fr tt) + (tm v1_266 (1 : Int32) fr tt)) + (tm v1_269 (2 : Int32) fr tt)) + (tm v1_272 (3 : Int32) fr tt)) + (tm v1_275 (4 : Int32) fr tt)) + (tm v1_278 (5 : Int32) fr tt)), .second] [(.int (1 : Int32))]))
                refine Go.step (fun _ k => XS.goto X_303.here hx rfl (pc0 := 281) (pc' := 285) rfl (hb hby at_281) (by decide) (by decide) k) ?_
                show Go p e below _ (T_303.setTop (mkF m 285 #[vJ p0, .second, vJ p1, .second, vJ p2, .second, vI p3, vI p4, vR b262, vI fr, vI tt, vR b281, vJ (rdF (sel v1_263 v1_266 v1_269 v1_272 v1_275 v1_278) tt 6 fr (0 : Int64)), .second, vJ (tm v1_263 (0 : Int32) fr tt), .second, vJ (tm v1_266 (1 : Int32) fr tt), .second, vJ (tm v1_269 (2 : Int32) fr tt), .second, vJ (tm v1_272 (3 : Int32) fr tt), .second, vJ (tm v1_275 (4 : Int32) fr tt), .second, vJ (tm v1_278 (5 : Int32) fr tt), .second, vJ ((((((tm v1_263 (0 : Int32) fr tt) + (tm v1_266 (1 : Int32) fr tt)) + (tm v1_269 (2 : Int32) fr tt)) + (tm v1_272 (3 : Int32) fr tt)) + (tm v1_275 (4 : Int32) fr tt)) + (tm v1_278 (5 : Int32) fr tt)), .second] [(.int (1 : Int32))]))
                exact Go.retV X_303 hx hlk hret rfl (Or.inl ⟨rfl, Or.inr (Or.inl rfl), _, rfl⟩) (hb hby at_285) (by decide) (by decide) (by rw [e_303]; exact ⟨rfl, N_303⟩)
  · skip
    show Go p e below _ (T_281.setTop (mkF m 103 #[vJ p0, .second, vJ p1, .second, vJ p2, .second, vI p3, vI p4, vR b262, vI fr, vI tt, vU, vU, vU, vU, vU, vU, vU, vU, vU, vU, vU, vU, vU, vU, vU, vU, vU] [(.ref b262), (.ref b281), (.ref b281)]))
    have f304 : Arv Z h_281 b262 k_262 .char (6 : Int32) [(.int v1_263), (.int v1_266), (.int v1_269), (.int v1_272), (.int v1_275), (.int v1_278)] (.int (0 : Int32)) := (V_279.ext E_281)
    obtain ⟨v_305, T_305, L_305, X_305, hQ_305, st_305⟩ := goC X_281 hx hZ (y := Y_20) hown rfl (wd_10 hw) (wd_11 hw) (wd_12 hw) (by decide) (backOf (W := 1) (rm_init1U l Z a0 hw zc vfm (b281) (b262) (k_262) (v1_263) (v1_266) (v1_269) (v1_272) (v1_275) (v1_278) h_281 n0 (Nat.le_trans Z0 KP_281.1) A_281 F_281_54 F_281_52 g_b281 f304 hU0 hh0 hh1 hh2 hh3 hh4 hh5 hSt O_281) hZ (wd_12 hw) (wd_9 hw) (by decide) (by decide)) e_281 (g := (mkF m 103 #[vJ p0, .second, vJ p1, .second, vJ p2, .second, vI p3, vI p4, vR b262, vI fr, vI tt, vU, vU, vU, vU, vU, vU, vU, vU, vU, vU, vU, vU, vU, vU, vU, vU, vU] [(.ref b262), (.ref b281), (.ref b281)])) rfl (by rw [hml]; rfl) (a := b281) (argsL := [(.ref b262)]) (rest := [(.ref b281)]) rfl (lenOf pd_16 rfl) rfl (by show 2 * 0 + _ ≤ _; exact Nat.le_of_eq rfl) (hb hby at_103) (by decide) (by decide)
    obtain ⟨t_305, kb_305, rfl, Nq_305, K_305, u0_305, u1_305, u2_305, u3_305⟩ := hQ_305
    have N_305 := Fr.app N_279 Nq_305
    have le_305 : h_281.size ≤ T_305.heap.size := K_305.1
    have KP_305 := KP_281.trans K_305 (allS (Or.inr sz_b281) all0)
    have O_305 := O_281.keep K_305 (allS g_b281 all0)
    refine Go.step st_305 ?_
    show Go p e below _ (T_305.setTop (mkF m 106 #[vJ p0, .second, vJ p1, .second, vJ p2, .second, vI p3, vI p4, vR b262, vI fr, vI tt, vU, vU, vU, vU, vU, vU, vU, vU, vU, vU, vU, vU, vU, vU, vU, vU, vU] [(.ref b281)]))
    refine Go.step (fun _ k => XS.astore X_305.here hx rfl (hb hby at_106) rfl rfl (l' := #[vJ p0, .second, vJ p1, .second, vJ p2, .second, vI p3, vI p4, vR b262, vI fr, vI tt, vR b281, vU, vU, vU, vU, vU, vU, vU, vU, vU, vU, vU, vU, vU, vU, vU, vU]) rfl k) ?_
    show Go p e below _ (T_305.setTop (mkF m 108 #[vJ p0, .second, vJ p1, .second, vJ p2, .second, vI p3, vI p4, vR b262, vI fr, vI tt, vR b281, vU, vU, vU, vU, vU, vU, vU, vU, vU, vU, vU, vU, vU, vU, vU, vU] []))
    refine Go.step (fun _ k => XS.aload X_305.here hx rfl (hb hby at_108) rfl rfl k) ?_
    refine Go.step (fun _ k => XS.iload X_305.here hx rfl (hb hby at_110) rfl  k) ?_
    refine Go.step (fun _ k => XS.iload X_305.here hx rfl (hb hby at_112) rfl  k) ?_
    show Go p e below _ (T_305.setTop (mkF m 114 #[vJ p0, .second, vJ p1, .second, vJ p2, .second, vI p3, vI p4, vR b262, vI fr, vI tt, vR b281, vU, vU, vU, vU, vU, vU, vU, vU, vU, vU, vU, vU, vU, vU, vU, vU] [(.int tt), (.int fr), (.ref b281)]))
    obtain ⟨v_306, T_306, L_306, X_306, hQ_306, st_306⟩ := goS X_305 hx hZ (y := Y_21) hown (wd_55 hw) (wd_56 hw) (wd_57 hw) (wd_58 hw) (by decide) (backOf (W := 0) (rm_rdU l Z a0 hw zc vfm (b281) (t_305) (kb_305) (v1_263) (v1_266) (v1_269) (v1_272) (v1_275) (v1_278) (fr) (tt) T_305.heap n0 (Nat.le_trans Z0 KP_305.1) u0_305 u1_305 u2_305 u3_305 hh0 hh1 hh2 hh3 hh4 hh5 h_ft hSt O_305) hZ (wd_58 hw) (wd_57 hw) (by decide) (by decide)) rfl (g := (mkF m 114 #[vJ p0, .second, vJ p1, .second, vJ p2, .second, vI p3, vI p4, vR b262, vI fr, vI tt, vR b281, vU, vU, vU, vU, vU, vU, vU, vU, vU, vU, vU, vU, vU, vU, vU, vU] [(.int tt), (.int fr), (.ref b281)])) rfl (by rw [hml]; rfl) (argsL := [(.ref b281), (.int fr), (.int tt)]) (rest := []) rfl (lenOf pd_17 rfl) rfl (by show 2 * 0 + _ ≤ _; exact Nat.le_of_eq rfl) (hb hby at_114) (by decide) (by decide)
    obtain ⟨rfl, Nq_306, e_306⟩ := hQ_306
    have N_306 := Fr.app N_305 Nq_306
    refine Go.step st_306 ?_
    show Go p e below _ (T_306.setTop (mkF m 117 #[vJ p0, .second, vJ p1, .second, vJ p2, .second, vI p3, vI p4, vR b262, vI fr, vI tt, vR b281, vU, vU, vU, vU, vU, vU, vU, vU, vU, vU, vU, vU, vU, vU, vU, vU] [(.long (rdF (sel v1_263 v1_266 v1_269 v1_272 v1_275 v1_278) tt 6 fr (0 : Int64)))]))
    refine Go.step (fun _ k => XS.lstore X_306.here hx rfl (hb hby at_117) rfl (l' := #[vJ p0, .second, vJ p1, .second, vJ p2, .second, vI p3, vI p4, vR b262, vI fr, vI tt, vR b281, vJ (rdF (sel v1_263 v1_266 v1_269 v1_272 v1_275 v1_278) tt 6 fr (0 : Int64)), .second, vU, vU, vU, vU, vU, vU, vU, vU, vU, vU, vU, vU, vU, vU]) rfl k) ?_
    show Go p e below _ (T_306.setTop (mkF m 119 #[vJ p0, .second, vJ p1, .second, vJ p2, .second, vI p3, vI p4, vR b262, vI fr, vI tt, vR b281, vJ (rdF (sel v1_263 v1_266 v1_269 v1_272 v1_275 v1_278) tt 6 fr (0 : Int64)), .second, vU, vU, vU, vU, vU, vU, vU, vU, vU, vU, vU, vU, vU, vU] []))
    refine Go.step (fun _ k => XS.aload X_306.here hx rfl (hb hby at_119) rfl rfl k) ?_
    refine Go.step (fun _ k => XS.iconst X_306.here hx rfl (hb hby at_121) k) ?_
    show Go p e below _ (T_306.setTop (mkF m 122 #[vJ p0, .second, vJ p1, .second, vJ p2, .second, vI p3, vI p4, vR b262, vI fr, vI tt, vR b281, vJ (rdF (sel v1_263 v1_266 v1_269 v1_272 v1_275 v1_278) tt 6 fr (0 : Int64)), .second, vU, vU, vU, vU, vU, vU, vU, vU, vU, vU, vU, vU, vU, vU] [(.int (0 : Int32)), (.ref b262)]))
    have f308 : Arv Z T_305.heap b262 k_262 .char (6 : Int32) [(.int v1_263), (.int v1_266), (.int v1_269), (.int v1_272), (.int v1_275), (.int v1_278)] (.int (0 : Int32)) := (f304.keep K_305 (ninS (Nat.ne_of_lt (Nat.lt_of_lt_of_le V_262.lt (Nat.le_trans (Nat.le_trans le_264 (Nat.le_trans le_267 (Nat.le_trans le_270 (Nat.le_trans le_273 (Nat.le_trans le_276 le_279))))) ge_281))) nin0))
    have cp309 := f308
    obtain ⟨cl_307, Ar_307, -, Sz_307, -, Hs_307, -⟩ := cp309
    have hin_307 : ¬ ((0 : Int32) < 0 ∨ cl_307.slots.size ≤ ((0 : Int32)).toNatClampNeg) := (inb_of Sz_307 ⟨by decide, by decide⟩)
    have hat_307 : cl_307.slots[((0 : Int32)).toNatClampNeg]? = some (.int v1_263) := (Hs_307.at (inb_of Sz_307 ⟨by decide, by decide⟩) rfl)
    refine Go.step (fun _ k => X_306.caload hx (j := (0 : Int32)) (v := (.int v1_263)) (by rw [e_306]; exact Ar_307.1) (State.isArrayOf_alike hZ.alike Ar_307.2.1) Ar_307.2.2 hin_307 hat_307 (g := (mkF m 122 #[vJ p0, .second, vJ p1, .second, vJ p2, .second, vI p3, vI p4, vR b262, vI fr, vI tt, vR b281, vJ (rdF (sel v1_263 v1_266 v1_269 v1_272 v1_275 v1_278) tt 6 fr (0 : Int64)), .second, vU, vU, vU, vU, vU, vU, vU, vU, vU, vU, vU, vU, vU, vU] [(.int (0 : Int32)), (.ref b262)])) rfl rfl (hb hby at_122) _ k) ?_
    show Go p e below _ (T_306.setTop (mkF m 123 #[vJ p0, .second, vJ p1, .second, vJ p2, .second, vI p3, vI p4, vR b262, vI fr, vI tt, vR b281, vJ (rdF (sel v1_263 v1_266 v1_269 v1_272 v1_275 v1_278) tt 6 fr (0 : Int64)), .second, vU, vU, vU, vU, vU, vU, vU, vU, vU, vU, vU, vU, vU, vU] [(.int v1_263)]))
    refine Go.step (fun _ k => XS.iconst X_306.here hx rfl (hb hby at_123) k) ?_
    refine Go.step (fun _ k => XS.iload X_306.here hx rfl (hb hby at_124) rfl  k) ?_
    refine Go.step (fun _ k => XS.iload X_306.here hx rfl (hb hby at_126) rfl  k) ?_
    show Go p e below _ (T_306.setTop (mkF m 128 #[vJ p0, .second, vJ p1, .second, vJ p2, .second, vI p3, vI p4, vR b262, vI fr, vI tt, vR b281, vJ (rdF (sel v1_263 v1_266 v1_269 v1_272 v1_275 v1_278) tt 6 fr (0 : Int64)), .second, vU, vU, vU, vU, vU, vU, vU, vU, vU, vU, vU, vU, vU, vU] [(.int tt), (.int fr), (.int (0 : Int32)), (.int v1_263)]))
    obtain ⟨v_310, T_310, L_310, X_310, hQ_310, st_310⟩ := goS X_306 hx hZ (y := Y_22) hown (wd_87 hw) (wd_88 hw) (wd_3 hw) (wd_89 hw) (by decide) (backOf (W := 0) (rm_tm l Z a0 hw zc vfm (v1_263) ((0 : Int32)) (fr) (tt) T_305.heap n0 (Nat.le_trans Z0 KP_305.1) hSt O_305) hZ (wd_89 hw) (wd_3 hw) (by decide) (by decide)) e_306 (g := (mkF m 128 #[vJ p0, .second, vJ p1, .second, vJ p2, .second, vI p3, vI p4, vR b262, vI fr, vI tt, vR b281, vJ (rdF (sel v1_263 v1_266 v1_269 v1_272 v1_275 v1_278) tt 6 fr (0 : Int64)), .second, vU, vU, vU, vU, vU, vU, vU, vU, vU, vU, vU, vU, vU, vU] [(.int tt), (.int fr), (.int (0 : Int32)), (.int v1_263)])) rfl (by rw [hml]; rfl) (argsL := [(.int v1_263), (.int (0 : Int32)), (.int fr), (.int tt)]) (rest := []) rfl (lenOf pd_18 rfl) rfl (by show 2 * 0 + _ ≤ _; exact Nat.le_of_eq rfl) (hb hby at_128) (by decide) (by decide)
    obtain ⟨rfl, Nq_310, e_310⟩ := hQ_310
    have N_310 := Fr.app N_306 Nq_310
    refine Go.step st_310 ?_
    show Go p e below _ (T_310.setTop (mkF m 131 #[vJ p0, .second, vJ p1, .second, vJ p2, .second, vI p3, vI p4, vR b262, vI fr, vI tt, vR b281, vJ (rdF (sel v1_263 v1_266 v1_269 v1_272 v1_275 v1_278) tt 6 fr (0 : Int64)), .second, vU, vU, vU, vU, vU, vU, vU, vU, vU, vU, vU, vU, vU, vU] [(.long (tm v1_263 (0 : Int32) fr tt))]))
    refine Go.step (fun _ k => XS.lstore X_310.here hx rfl (hb hby at_131) rfl (l' := #[vJ p0, .second, vJ p1, .second, vJ p2, .second, vI p3, vI p4, vR b262, vI fr, vI tt, vR b281, vJ (rdF (sel v1_263 v1_266 v1_269 v1_272 v1_275 v1_278) tt 6 fr (0 : Int64)), .second, vJ (tm v1_263 (0 : Int32) fr tt), .second, vU, vU, vU, vU, vU, vU, vU, vU, vU, vU, vU, vU]) rfl k) ?_
    show Go p e below _ (T_310.setTop (mkF m 133 #[vJ p0, .second, vJ p1, .second, vJ p2, .second, vI p3, vI p4, vR b262, vI fr, vI tt, vR b281, vJ (rdF (sel v1_263 v1_266 v1_269 v1_272 v1_275 v1_278) tt 6 fr (0 : Int64)), .second, vJ (tm v1_263 (0 : Int32) fr tt), .second, vU, vU, vU, vU, vU, vU, vU, vU, vU, vU, vU, vU] []))
    refine Go.step (fun _ k => XS.aload X_310.here hx rfl (hb hby at_133) rfl rfl k) ?_
    refine Go.step (fun _ k => XS.iconst X_310.here hx rfl (hb hby at_135) k) ?_
    show Go p e below _ (T_310.setTop (mkF m 136 #[vJ p0, .second, vJ p1, .second, vJ p2, .second, vI p3, vI p4, vR b262, vI fr, vI tt, vR b281, vJ (rdF (sel v1_263 v1_266 v1_269 v1_272 v1_275 v1_278) tt 6 fr (0 : Int64)), .second, vJ (tm v1_263 (0 : Int32) fr tt), .second, vU, vU, vU, vU, vU, vU, vU, vU, vU, vU, vU, vU] [(.int (1 : Int32)), (.ref b262)]))
    have cp312 := f308
    obtain ⟨cl_311, Ar_311, -, Sz_311, -, Hs_311, -⟩ := cp312
    have hin_311 : ¬ ((1 : Int32) < 0 ∨ cl_311.slots.size ≤ ((1 : Int32)).toNatClampNeg) := (inb_of Sz_311 ⟨by decide, by decide⟩)
    have hat_311 : cl_311.slots[((1 : Int32)).toNatClampNeg]? = some (.int v1_266) := (Hs_311.at (inb_of Sz_311 ⟨by decide, by decide⟩) rfl)
    refine Go.step (fun _ k => X_310.caload hx (j := (1 : Int32)) (v := (.int v1_266)) (by rw [e_310]; exact Ar_311.1) (State.isArrayOf_alike hZ.alike Ar_311.2.1) Ar_311.2.2 hin_311 hat_311 (g := (mkF m 136 #[vJ p0, .second, vJ p1, .second, vJ p2, .second, vI p3, vI p4, vR b262, vI fr, vI tt, vR b281, vJ (rdF (sel v1_263 v1_266 v1_269 v1_272 v1_275 v1_278) tt 6 fr (0 : Int64)), .second, vJ (tm v1_263 (0 : Int32) fr tt), .second, vU, vU, vU, vU, vU, vU, vU, vU, vU, vU, vU, vU] [(.int (1 : Int32)), (.ref b262)])) rfl rfl (hb hby at_136) _ k) ?_
    show Go p e below _ (T_310.setTop (mkF m 137 #[vJ p0, .second, vJ p1, .second, vJ p2, .second, vI p3, vI p4, vR b262, vI fr, vI tt, vR b281, vJ (rdF (sel v1_263 v1_266 v1_269 v1_272 v1_275 v1_278) tt 6 fr (0 : Int64)), .second, vJ (tm v1_263 (0 : Int32) fr tt), .second, vU, vU, vU, vU, vU, vU, vU, vU, vU, vU, vU, vU] [(.int v1_266)]))
    refine Go.step (fun _ k => XS.iconst X_310.here hx rfl (hb hby at_137) k) ?_
    refine Go.step (fun _ k => XS.iload X_310.here hx rfl (hb hby at_138) rfl  k) ?_
    refine Go.step (fun _ k => XS.iload X_310.here hx rfl (hb hby at_140) rfl  k) ?_
    show Go p e below _ (T_310.setTop (mkF m 142 #[vJ p0, .second, vJ p1, .second, vJ p2, .second, vI p3, vI p4, vR b262, vI fr, vI tt, vR b281, vJ (rdF (sel v1_263 v1_266 v1_269 v1_272 v1_275 v1_278) tt 6 fr (0 : Int64)), .second, vJ (tm v1_263 (0 : Int32) fr tt), .second, vU, vU, vU, vU, vU, vU, vU, vU, vU, vU, vU, vU] [(.int tt), (.int fr), (.int (1 : Int32)), (.int v1_266)]))
    obtain ⟨v_313, T_313, L_313, X_313, hQ_313, st_313⟩ := goS X_310 hx hZ (y := Y_22) hown (wd_87 hw) (wd_88 hw) (wd_3 hw) (wd_89 hw) (by decide) (backOf (W := 0) (rm_tm l Z a0 hw zc vfm (v1_266) ((1 : Int32)) (fr) (tt) T_305.heap n0 (Nat.le_trans Z0 KP_305.1) hSt O_305) hZ (wd_89 hw) (wd_3 hw) (by decide) (by decide)) e_310 (g := (mkF m 142 #[vJ p0, .second, vJ p1, .second, vJ p2, .second, vI p3, vI p4, vR b262, vI fr, vI tt, vR b281, vJ (rdF (sel v1_263 v1_266 v1_269 v1_272 v1_275 v1_278) tt 6 fr (0 : Int64)), .second, vJ (tm v1_263 (0 : Int32) fr tt), .second, vU, vU, vU, vU, vU, vU, vU, vU, vU, vU, vU, vU] [(.int tt), (.int fr), (.int (1 : Int32)), (.int v1_266)])) rfl (by rw [hml]; rfl) (argsL := [(.int v1_266), (.int (1 : Int32)), (.int fr), (.int tt)]) (rest := []) rfl (lenOf pd_18 rfl) rfl (by show 2 * 0 + _ ≤ _; exact Nat.le_of_eq rfl) (hb hby at_142) (by decide) (by decide)
    obtain ⟨rfl, Nq_313, e_313⟩ := hQ_313
    have N_313 := Fr.app N_310 Nq_313
    refine Go.step st_313 ?_
    show Go p e below _ (T_313.setTop (mkF m 145 #[vJ p0, .second, vJ p1, .second, vJ p2, .second, vI p3, vI p4, vR b262, vI fr, vI tt, vR b281, vJ (rdF (sel v1_263 v1_266 v1_269 v1_272 v1_275 v1_278) tt 6 fr (0 : Int64)), .second, vJ (tm v1_263 (0 : Int32) fr tt), .second, vU, vU, vU, vU, vU, vU, vU, vU, vU, vU, vU, vU] [(.long (tm v1_266 (1 : Int32) fr tt))]))
    refine Go.step (fun _ k => XS.lstore X_313.here hx rfl (hb hby at_145) rfl (l' := #[vJ p0, .second, vJ p1, .second, vJ p2, .second, vI p3, vI p4, vR b262, vI fr, vI tt, vR b281, vJ (rdF (sel v1_263 v1_266 v1_269 v1_272 v1_275 v1_278) tt 6 fr (0 : Int64)), .second, vJ (tm v1_263 (0 : Int32) fr tt), .second, vJ (tm v1_266 (1 : Int32) fr tt), .second, vU, vU, vU, vU, vU, vU, vU, vU, vU, vU]) rfl k) ?_
    show Go p e below _ (T_313.setTop (mkF m 147 #[vJ p0, .second, vJ p1, .second, vJ p2, .second, vI p3, vI p4, vR b262, vI fr, vI tt, vR b281, vJ (rdF (sel v1_263 v1_266 v1_269 v1_272 v1_275 v1_278) tt 6 fr (0 : Int64)), .second, vJ (tm v1_263 (0 : Int32) fr tt), .second, vJ (tm v1_266 (1 : Int32) fr tt), .second, vU, vU, vU, vU, vU, vU, vU, vU, vU, vU] []))
    refine Go.step (fun _ k => XS.aload X_313.here hx rfl (hb hby at_147) rfl rfl k) ?_
    refine Go.step (fun _ k => XS.iconst X_313.here hx rfl (hb hby at_149) k) ?_
    show Go p e below _ (T_313.setTop (mkF m 150 #[vJ p0, .second, vJ p1, .second, vJ p2, .second, vI p3, vI p4, vR b262, vI fr, vI tt, vR b281, vJ (rdF (sel v1_263 v1_266 v1_269 v1_272 v1_275 v1_278) tt 6 fr (0 : Int64)), .second, vJ (tm v1_263 (0 : Int32) fr tt), .second, vJ (tm v1_266 (1 : Int32) fr tt), .second, vU, vU, vU, vU, vU, vU, vU, vU, vU, vU] [(.int (2 : Int32)), (.ref b262)]))
    have cp315 := f308
    obtain ⟨cl_314, Ar_314, -, Sz_314, -, Hs_314, -⟩ := cp315
    have hin_314 : ¬ ((2 : Int32) < 0 ∨ cl_314.slots.size ≤ ((2 : Int32)).toNatClampNeg) := (inb_of Sz_314 ⟨by decide, by decide⟩)
    have hat_314 : cl_314.slots[((2 : Int32)).toNatClampNeg]? = some (.int v1_269) := (Hs_314.at (inb_of Sz_314 ⟨by decide, by decide⟩) rfl)
    refine Go.step (fun _ k => X_313.caload hx (j := (2 : Int32)) (v := (.int v1_269)) (by rw [e_313]; exact Ar_314.1) (State.isArrayOf_alike hZ.alike Ar_314.2.1) Ar_314.2.2 hin_314 hat_314 (g := (mkF m 150 #[vJ p0, .second, vJ p1, .second, vJ p2, .second, vI p3, vI p4, vR b262, vI fr, vI tt, vR b281, vJ (rdF (sel v1_263 v1_266 v1_269 v1_272 v1_275 v1_278) tt 6 fr (0 : Int64)), .second, vJ (tm v1_263 (0 : Int32) fr tt), .second, vJ (tm v1_266 (1 : Int32) fr tt), .second, vU, vU, vU, vU, vU, vU, vU, vU, vU, vU] [(.int (2 : Int32)), (.ref b262)])) rfl rfl (hb hby at_150) _ k) ?_
    show Go p e below _ (T_313.setTop (mkF m 151 #[vJ p0, .second, vJ p1, .second, vJ p2, .second, vI p3, vI p4, vR b262, vI fr, vI tt, vR b281, vJ (rdF (sel v1_263 v1_266 v1_269 v1_272 v1_275 v1_278) tt 6 fr (0 : Int64)), .second, vJ (tm v1_263 (0 : Int32) fr tt), .second, vJ (tm v1_266 (1 : Int32) fr tt), .second, vU, vU, vU, vU, vU, vU, vU, vU, vU, vU] [(.int v1_269)]))
    refine Go.step (fun _ k => XS.iconst X_313.here hx rfl (hb hby at_151) k) ?_
    refine Go.step (fun _ k => XS.iload X_313.here hx rfl (hb hby at_152) rfl  k) ?_
    refine Go.step (fun _ k => XS.iload X_313.here hx rfl (hb hby at_154) rfl  k) ?_
    show Go p e below _ (T_313.setTop (mkF m 156 #[vJ p0, .second, vJ p1, .second, vJ p2, .second, vI p3, vI p4, vR b262, vI fr, vI tt, vR b281, vJ (rdF (sel v1_263 v1_266 v1_269 v1_272 v1_275 v1_278) tt 6 fr (0 : Int64)), .second, vJ (tm v1_263 (0 : Int32) fr tt), .second, vJ (tm v1_266 (1 : Int32) fr tt), .second, vU, vU, vU, vU, vU, vU, vU, vU, vU, vU] [(.int tt), (.int fr), (.int (2 : Int32)), (.int v1_269)]))
    obtain ⟨v_316, T_316, L_316, X_316, hQ_316, st_316⟩ := goS X_313 hx hZ (y := Y_22) hown (wd_87 hw) (wd_88 hw) (wd_3 hw) (wd_89 hw) (by decide) (backOf (W := 0) (rm_tm l Z a0 hw zc vfm (v1_269) ((2 : Int32)) (fr) (tt) T_305.heap n0 (Nat.le_trans Z0 KP_305.1) hSt O_305) hZ (wd_89 hw) (wd_3 hw) (by decide) (by decide)) e_313 (g := (mkF m 156 #[vJ p0, .second, vJ p1, .second, vJ p2, .second, vI p3, vI p4, vR b262, vI fr, vI tt, vR b281, vJ (rdF (sel v1_263 v1_266 v1_269 v1_272 v1_275 v1_278) tt 6 fr (0 : Int64)), .second, vJ (tm v1_263 (0 : Int32) fr tt), .second, vJ (tm v1_266 (1 : Int32) fr tt), .second, vU, vU, vU, vU, vU, vU, vU, vU, vU, vU] [(.int tt), (.int fr), (.int (2 : Int32)), (.int v1_269)])) rfl (by rw [hml]; rfl) (argsL := [(.int v1_269), (.int (2 : Int32)), (.int fr), (.int tt)]) (rest := []) rfl (lenOf pd_18 rfl) rfl (by show 2 * 0 + _ ≤ _; exact Nat.le_of_eq rfl) (hb hby at_156) (by decide) (by decide)
    obtain ⟨rfl, Nq_316, e_316⟩ := hQ_316
    have N_316 := Fr.app N_313 Nq_316
    refine Go.step st_316 ?_
    show Go p e below _ (T_316.setTop (mkF m 159 #[vJ p0, .second, vJ p1, .second, vJ p2, .second, vI p3, vI p4, vR b262, vI fr, vI tt, vR b281, vJ (rdF (sel v1_263 v1_266 v1_269 v1_272 v1_275 v1_278) tt 6 fr (0 : Int64)), .second, vJ (tm v1_263 (0 : Int32) fr tt), .second, vJ (tm v1_266 (1 : Int32) fr tt), .second, vU, vU, vU, vU, vU, vU, vU, vU, vU, vU] [(.long (tm v1_269 (2 : Int32) fr tt))]))
    refine Go.step (fun _ k => XS.lstore X_316.here hx rfl (hb hby at_159) rfl (l' := #[vJ p0, .second, vJ p1, .second, vJ p2, .second, vI p3, vI p4, vR b262, vI fr, vI tt, vR b281, vJ (rdF (sel v1_263 v1_266 v1_269 v1_272 v1_275 v1_278) tt 6 fr (0 : Int64)), .second, vJ (tm v1_263 (0 : Int32) fr tt), .second, vJ (tm v1_266 (1 : Int32) fr tt), .second, vJ (tm v1_269 (2 : Int32) fr tt), .second, vU, vU, vU, vU, vU, vU, vU, vU]) rfl k) ?_
    show Go p e below _ (T_316.setTop (mkF m 161 #[vJ p0, .second, vJ p1, .second, vJ p2, .second, vI p3, vI p4, vR b262, vI fr, vI tt, vR b281, vJ (rdF (sel v1_263 v1_266 v1_269 v1_272 v1_275 v1_278) tt 6 fr (0 : Int64)), .second, vJ (tm v1_263 (0 : Int32) fr tt), .second, vJ (tm v1_266 (1 : Int32) fr tt), .second, vJ (tm v1_269 (2 : Int32) fr tt), .second, vU, vU, vU, vU, vU, vU, vU, vU] []))
    refine Go.step (fun _ k => XS.aload X_316.here hx rfl (hb hby at_161) rfl rfl k) ?_
    refine Go.step (fun _ k => XS.iconst X_316.here hx rfl (hb hby at_163) k) ?_
    show Go p e below _ (T_316.setTop (mkF m 164 #[vJ p0, .second, vJ p1, .second, vJ p2, .second, vI p3, vI p4, vR b262, vI fr, vI tt, vR b281, vJ (rdF (sel v1_263 v1_266 v1_269 v1_272 v1_275 v1_278) tt 6 fr (0 : Int64)), .second, vJ (tm v1_263 (0 : Int32) fr tt), .second, vJ (tm v1_266 (1 : Int32) fr tt), .second, vJ (tm v1_269 (2 : Int32) fr tt), .second, vU, vU, vU, vU, vU, vU, vU, vU] [(.int (3 : Int32)), (.ref b262)]))
    have cp318 := f308
    obtain ⟨cl_317, Ar_317, -, Sz_317, -, Hs_317, -⟩ := cp318
    have hin_317 : ¬ ((3 : Int32) < 0 ∨ cl_317.slots.size ≤ ((3 : Int32)).toNatClampNeg) := (inb_of Sz_317 ⟨by decide, by decide⟩)
    have hat_317 : cl_317.slots[((3 : Int32)).toNatClampNeg]? = some (.int v1_272) := (Hs_317.at (inb_of Sz_317 ⟨by decide, by decide⟩) rfl)
    refine Go.step (fun _ k => X_316.caload hx (j := (3 : Int32)) (v := (.int v1_272)) (by rw [e_316]; exact Ar_317.1) (State.isArrayOf_alike hZ.alike Ar_317.2.1) Ar_317.2.2 hin_317 hat_317 (g := (mkF m 164 #[vJ p0, .second, vJ p1, .second, vJ p2, .second, vI p3, vI p4, vR b262, vI fr, vI tt, vR b281, vJ (rdF (sel v1_263 v1_266 v1_269 v1_272 v1_275 v1_278) tt 6 fr (0 : Int64)), .second, vJ (tm v1_263 (0 : Int32) fr tt), .second, vJ (tm v1_266 (1 : Int32) fr tt), .second, vJ (tm v1_269 (2 : Int32) fr tt), .second, vU, vU, vU, vU, vU, vU, vU, vU] [(.int (3 : Int32)), (.ref b262)])) rfl rfl (hb hby at_164) _ k) ?_
    show Go p e below _ (T_316.setTop (mkF m 165 #[vJ p0, .second, vJ p1, .second, vJ p2, .second, vI p3, vI p4, vR b262, vI fr, vI tt, vR b281, vJ (rdF (sel v1_263 v1_266 v1_269 v1_272 v1_275 v1_278) tt 6 fr (0 : Int64)), .second, vJ (tm v1_263 (0 : Int32) fr tt), .second, vJ (tm v1_266 (1 : Int32) fr tt), .second, vJ (tm v1_269 (2 : Int32) fr tt), .second, vU, vU, vU, vU, vU, vU, vU, vU] [(.int v1_272)]))
    refine Go.step (fun _ k => XS.iconst X_316.here hx rfl (hb hby at_165) k) ?_
    refine Go.step (fun _ k => XS.iload X_316.here hx rfl (hb hby at_166) rfl  k) ?_
    refine Go.step (fun _ k => XS.iload X_316.here hx rfl (hb hby at_168) rfl  k) ?_
    show Go p e below _ (T_316.setTop (mkF m 170 #[vJ p0, .second, vJ p1, .second, vJ p2, .second, vI p3, vI p4, vR b262, vI fr, vI tt, vR b281, vJ (rdF (sel v1_263 v1_266 v1_269 v1_272 v1_275 v1_278) tt 6 fr (0 : Int64)), .second, vJ (tm v1_263 (0 : Int32) fr tt), .second, vJ (tm v1_266 (1 : Int32) fr tt), .second, vJ (tm v1_269 (2 : Int32) fr tt), .second, vU, vU, vU, vU, vU, vU, vU, vU] [(.int tt), (.int fr), (.int (3 : Int32)), (.int v1_272)]))
    obtain ⟨v_319, T_319, L_319, X_319, hQ_319, st_319⟩ := goS X_316 hx hZ (y := Y_22) hown (wd_87 hw) (wd_88 hw) (wd_3 hw) (wd_89 hw) (by decide) (backOf (W := 0) (rm_tm l Z a0 hw zc vfm (v1_272) ((3 : Int32)) (fr) (tt) T_305.heap n0 (Nat.le_trans Z0 KP_305.1) hSt O_305) hZ (wd_89 hw) (wd_3 hw) (by decide) (by decide)) e_316 (g := (mkF m 170 #[vJ p0, .second, vJ p1, .second, vJ p2, .second, vI p3, vI p4, vR b262, vI fr, vI tt, vR b281, vJ (rdF (sel v1_263 v1_266 v1_269 v1_272 v1_275 v1_278) tt 6 fr (0 : Int64)), .second, vJ (tm v1_263 (0 : Int32) fr tt), .second, vJ (tm v1_266 (1 : Int32) fr tt), .second, vJ (tm v1_269 (2 : Int32) fr tt), .second, vU, vU, vU, vU, vU, vU, vU, vU] [(.int tt), (.int fr), (.int (3 : Int32)), (.int v1_272)])) rfl (by rw [hml]; rfl) (argsL := [(.int v1_272), (.int (3 : Int32)), (.int fr), (.int tt)]) (rest := []) rfl (lenOf pd_18 rfl) rfl (by show 2 * 0 + _ ≤ _; exact Nat.le_of_eq rfl) (hb hby at_170) (by decide) (by decide)
    obtain ⟨rfl, Nq_319, e_319⟩ := hQ_319
    have N_319 := Fr.app N_316 Nq_319
    refine Go.step st_319 ?_
    show Go p e below _ (T_319.setTop (mkF m 173 #[vJ p0, .second, vJ p1, .second, vJ p2, .second, vI p3, vI p4, vR b262, vI fr, vI tt, vR b281, vJ (rdF (sel v1_263 v1_266 v1_269 v1_272 v1_275 v1_278) tt 6 fr (0 : Int64)), .second, vJ (tm v1_263 (0 : Int32) fr tt), .second, vJ (tm v1_266 (1 : Int32) fr tt), .second, vJ (tm v1_269 (2 : Int32) fr tt), .second, vU, vU, vU, vU, vU, vU, vU, vU] [(.long (tm v1_272 (3 : Int32) fr tt))]))
    refine Go.step (fun _ k => XS.lstore X_319.here hx rfl (hb hby at_173) rfl (l' := #[vJ p0, .second, vJ p1, .second, vJ p2, .second, vI p3, vI p4, vR b262, vI fr, vI tt, vR b281, vJ (rdF (sel v1_263 v1_266 v1_269 v1_272 v1_275 v1_278) tt 6 fr (0 : Int64)), .second, vJ (tm v1_263 (0 : Int32) fr tt), .second, vJ (tm v1_266 (1 : Int32) fr tt), .second, vJ (tm v1_269 (2 : Int32) fr tt), .second, vJ (tm v1_272 (3 : Int32) fr tt), .second, vU, vU, vU, vU, vU, vU]) rfl k) ?_
    show Go p e below _ (T_319.setTop (mkF m 175 #[vJ p0, .second, vJ p1, .second, vJ p2, .second, vI p3, vI p4, vR b262, vI fr, vI tt, vR b281, vJ (rdF (sel v1_263 v1_266 v1_269 v1_272 v1_275 v1_278) tt 6 fr (0 : Int64)), .second, vJ (tm v1_263 (0 : Int32) fr tt), .second, vJ (tm v1_266 (1 : Int32) fr tt), .second, vJ (tm v1_269 (2 : Int32) fr tt), .second, vJ (tm v1_272 (3 : Int32) fr tt), .second, vU, vU, vU, vU, vU, vU] []))
    refine Go.step (fun _ k => XS.aload X_319.here hx rfl (hb hby at_175) rfl rfl k) ?_
    refine Go.step (fun _ k => XS.iconst X_319.here hx rfl (hb hby at_177) k) ?_
    show Go p e below _ (T_319.setTop (mkF m 178 #[vJ p0, .second, vJ p1, .second, vJ p2, .second, vI p3, vI p4, vR b262, vI fr, vI tt, vR b281, vJ (rdF (sel v1_263 v1_266 v1_269 v1_272 v1_275 v1_278) tt 6 fr (0 : Int64)), .second, vJ (tm v1_263 (0 : Int32) fr tt), .second, vJ (tm v1_266 (1 : Int32) fr tt), .second, vJ (tm v1_269 (2 : Int32) fr tt), .second, vJ (tm v1_272 (3 : Int32) fr tt), .second, vU, vU, vU, vU, vU, vU] [(.int (4 : Int32)), (.ref b262)]))
    have cp321 := f308
    obtain ⟨cl_320, Ar_320, -, Sz_320, -, Hs_320, -⟩ := cp321
    have hin_320 : ¬ ((4 : Int32) < 0 ∨ cl_320.slots.size ≤ ((4 : Int32)).toNatClampNeg) := (inb_of Sz_320 ⟨by decide, by decide⟩)
    have hat_320 : cl_320.slots[((4 : Int32)).toNatClampNeg]? = some (.int v1_275) := (Hs_320.at (inb_of Sz_320 ⟨by decide, by decide⟩) rfl)
    refine Go.step (fun _ k => X_319.caload hx (j := (4 : Int32)) (v := (.int v1_275)) (by rw [e_319]; exact Ar_320.1) (State.isArrayOf_alike hZ.alike Ar_320.2.1) Ar_320.2.2 hin_320 hat_320 (g := (mkF m 178 #[vJ p0, .second, vJ p1, .second, vJ p2, .second, vI p3, vI p4, vR b262, vI fr, vI tt, vR b281, vJ (rdF (sel v1_263 v1_266 v1_269 v1_272 v1_275 v1_278) tt 6 fr (0 : Int64)), .second, vJ (tm v1_263 (0 : Int32) fr tt), .second, vJ (tm v1_266 (1 : Int32) fr tt), .second, vJ (tm v1_269 (2 : Int32) fr tt), .second, vJ (tm v1_272 (3 : Int32) fr tt), .second, vU, vU, vU, vU, vU, vU] [(.int (4 : Int32)), (.ref b262)])) rfl rfl (hb hby at_178) _ k) ?_
    show Go p e below _ (T_319.setTop (mkF m 179 #[vJ p0, .second, vJ p1, .second, vJ p2, .second, vI p3, vI p4, vR b262, vI fr, vI tt, vR b281, vJ (rdF (sel v1_263 v1_266 v1_269 v1_272 v1_275 v1_278) tt 6 fr (0 : Int64)), .second, vJ (tm v1_263 (0 : Int32) fr tt), .second, vJ (tm v1_266 (1 : Int32) fr tt), .second, vJ (tm v1_269 (2 : Int32) fr tt), .second, vJ (tm v1_272 (3 : Int32) fr tt), .second, vU, vU, vU, vU, vU, vU] [(.int v1_275)]))
    refine Go.step (fun _ k => XS.iconst X_319.here hx rfl (hb hby at_179) k) ?_
    refine Go.step (fun _ k => XS.iload X_319.here hx rfl (hb hby at_180) rfl  k) ?_
    refine Go.step (fun _ k => XS.iload X_319.here hx rfl (hb hby at_182) rfl  k) ?_
    show Go p e below _ (T_319.setTop (mkF m 184 #[vJ p0, .second, vJ p1, .second, vJ p2, .second, vI p3, vI p4, vR b262, vI fr, vI tt, vR b281, vJ (rdF (sel v1_263 v1_266 v1_269 v1_272 v1_275 v1_278) tt 6 fr (0 : Int64)), .second, vJ (tm v1_263 (0 : Int32) fr tt), .second, vJ (tm v1_266 (1 : Int32) fr tt), .second, vJ (tm v1_269 (2 : Int32) fr tt), .second, vJ (tm v1_272 (3 : Int32) fr tt), .second, vU, vU, vU, vU, vU, vU] [(.int tt), (.int fr), (.int (4 : Int32)), (.int v1_275)]))
    obtain ⟨v_322, T_322, L_322, X_322, hQ_322, st_322⟩ := goS X_319 hx hZ (y := Y_22) hown (wd_87 hw) (wd_88 hw) (wd_3 hw) (wd_89 hw) (by decide) (backOf (W := 0) (rm_tm l Z a0 hw zc vfm (v1_275) ((4 : Int32)) (fr) (tt) T_305.heap n0 (Nat.le_trans Z0 KP_305.1) hSt O_305) hZ (wd_89 hw) (wd_3 hw) (by decide) (by decide)) e_319 (g := (mkF m 184 #[vJ p0, .second, vJ p1, .second, vJ p2, .second, vI p3, vI p4, vR b262, vI fr, vI tt, vR b281, vJ (rdF (sel v1_263 v1_266 v1_269 v1_272 v1_275 v1_278) tt 6 fr (0 : Int64)), .second, vJ (tm v1_263 (0 : Int32) fr tt), .second, vJ (tm v1_266 (1 : Int32) fr tt), .second, vJ (tm v1_269 (2 : Int32) fr tt), .second, vJ (tm v1_272 (3 : Int32) fr tt), .second, vU, vU, vU, vU, vU, vU] [(.int tt), (.int fr), (.int (4 : Int32)), (.int v1_275)])) rfl (by rw [hml]; rfl) (argsL := [(.int v1_275), (.int (4 : Int32)), (.int fr), (.int tt)]) (rest := []) rfl (lenOf pd_18 rfl) rfl (by show 2 * 0 + _ ≤ _; exact Nat.le_of_eq rfl) (hb hby at_184) (by decide) (by decide)
    obtain ⟨rfl, Nq_322, e_322⟩ := hQ_322
    have N_322 := Fr.app N_319 Nq_322
    refine Go.step st_322 ?_
    show Go p e below _ (T_322.setTop (mkF m 187 #[vJ p0, .second, vJ p1, .second, vJ p2, .second, vI p3, vI p4, vR b262, vI fr, vI tt, vR b281, vJ (rdF (sel v1_263 v1_266 v1_269 v1_272 v1_275 v1_278) tt 6 fr (0 : Int64)), .second, vJ (tm v1_263 (0 : Int32) fr tt), .second, vJ (tm v1_266 (1 : Int32) fr tt), .second, vJ (tm v1_269 (2 : Int32) fr tt), .second, vJ (tm v1_272 (3 : Int32) fr tt), .second, vU, vU, vU, vU, vU, vU] [(.long (tm v1_275 (4 : Int32) fr tt))]))
    refine Go.step (fun _ k => XS.lstore X_322.here hx rfl (hb hby at_187) rfl (l' := #[vJ p0, .second, vJ p1, .second, vJ p2, .second, vI p3, vI p4, vR b262, vI fr, vI tt, vR b281, vJ (rdF (sel v1_263 v1_266 v1_269 v1_272 v1_275 v1_278) tt 6 fr (0 : Int64)), .second, vJ (tm v1_263 (0 : Int32) fr tt), .second, vJ (tm v1_266 (1 : Int32) fr tt), .second, vJ (tm v1_269 (2 : Int32) fr tt), .second, vJ (tm v1_272 (3 : Int32) fr tt), .second, vJ (tm v1_275 (4 : Int32) fr tt), .second, vU, vU, vU, vU]) rfl k) ?_
    show Go p e below _ (T_322.setTop (mkF m 189 #[vJ p0, .second, vJ p1, .second, vJ p2, .second, vI p3, vI p4, vR b262, vI fr, vI tt, vR b281, vJ (rdF (sel v1_263 v1_266 v1_269 v1_272 v1_275 v1_278) tt 6 fr (0 : Int64)), .second, vJ (tm v1_263 (0 : Int32) fr tt), .second, vJ (tm v1_266 (1 : Int32) fr tt), .second, vJ (tm v1_269 (2 : Int32) fr tt), .second, vJ (tm v1_272 (3 : Int32) fr tt), .second, vJ (tm v1_275 (4 : Int32) fr tt), .second, vU, vU, vU, vU] []))
    refine Go.step (fun _ k => XS.aload X_322.here hx rfl (hb hby at_189) rfl rfl k) ?_
    refine Go.step (fun _ k => XS.iconst X_322.here hx rfl (hb hby at_191) k) ?_
    show Go p e below _ (T_322.setTop (mkF m 192 #[vJ p0, .second, vJ p1, .second, vJ p2, .second, vI p3, vI p4, vR b262, vI fr, vI tt, vR b281, vJ (rdF (sel v1_263 v1_266 v1_269 v1_272 v1_275 v1_278) tt 6 fr (0 : Int64)), .second, vJ (tm v1_263 (0 : Int32) fr tt), .second, vJ (tm v1_266 (1 : Int32) fr tt), .second, vJ (tm v1_269 (2 : Int32) fr tt), .second, vJ (tm v1_272 (3 : Int32) fr tt), .second, vJ (tm v1_275 (4 : Int32) fr tt), .second, vU, vU, vU, vU] [(.int (5 : Int32)), (.ref b262)]))
    have cp324 := f308
    obtain ⟨cl_323, Ar_323, -, Sz_323, -, Hs_323, -⟩ := cp324
    have hin_323 : ¬ ((5 : Int32) < 0 ∨ cl_323.slots.size ≤ ((5 : Int32)).toNatClampNeg) := (inb_of Sz_323 ⟨by decide, by decide⟩)
    have hat_323 : cl_323.slots[((5 : Int32)).toNatClampNeg]? = some (.int v1_278) := (Hs_323.at (inb_of Sz_323 ⟨by decide, by decide⟩) rfl)
    refine Go.step (fun _ k => X_322.caload hx (j := (5 : Int32)) (v := (.int v1_278)) (by rw [e_322]; exact Ar_323.1) (State.isArrayOf_alike hZ.alike Ar_323.2.1) Ar_323.2.2 hin_323 hat_323 (g := (mkF m 192 #[vJ p0, .second, vJ p1, .second, vJ p2, .second, vI p3, vI p4, vR b262, vI fr, vI tt, vR b281, vJ (rdF (sel v1_263 v1_266 v1_269 v1_272 v1_275 v1_278) tt 6 fr (0 : Int64)), .second, vJ (tm v1_263 (0 : Int32) fr tt), .second, vJ (tm v1_266 (1 : Int32) fr tt), .second, vJ (tm v1_269 (2 : Int32) fr tt), .second, vJ (tm v1_272 (3 : Int32) fr tt), .second, vJ (tm v1_275 (4 : Int32) fr tt), .second, vU, vU, vU, vU] [(.int (5 : Int32)), (.ref b262)])) rfl rfl (hb hby at_192) _ k) ?_
    show Go p e below _ (T_322.setTop (mkF m 193 #[vJ p0, .second, vJ p1, .second, vJ p2, .second, vI p3, vI p4, vR b262, vI fr, vI tt, vR b281, vJ (rdF (sel v1_263 v1_266 v1_269 v1_272 v1_275 v1_278) tt 6 fr (0 : Int64)), .second, vJ (tm v1_263 (0 : Int32) fr tt), .second, vJ (tm v1_266 (1 : Int32) fr tt), .second, vJ (tm v1_269 (2 : Int32) fr tt), .second, vJ (tm v1_272 (3 : Int32) fr tt), .second, vJ (tm v1_275 (4 : Int32) fr tt), .second, vU, vU, vU, vU] [(.int v1_278)]))
    refine Go.step (fun _ k => XS.iconst X_322.here hx rfl (hb hby at_193) k) ?_
    refine Go.step (fun _ k => XS.iload X_322.here hx rfl (hb hby at_194) rfl  k) ?_
    refine Go.step (fun _ k => XS.iload X_322.here hx rfl (hb hby at_196) rfl  k) ?_
    show Go p e below _ (T_322.setTop (mkF m 198 #[vJ p0, .second, vJ p1, .second, vJ p2, .second, vI p3, vI p4, vR b262, vI fr, vI tt, vR b281, vJ (rdF (sel v1_263 v1_266 v1_269 v1_272 v1_275 v1_278) tt 6 fr (0 : Int64)), .second, vJ (tm v1_263 (0 : Int32) fr tt), .second, vJ (tm v1_266 (1 : Int32) fr tt), .second, vJ (tm v1_269 (2 : Int32) fr tt), .second, vJ (tm v1_272 (3 : Int32) fr tt), .second, vJ (tm v1_275 (4 : Int32) fr tt), .second, vU, vU, vU, vU] [(.int tt), (.int fr), (.int (5 : Int32)), (.int v1_278)]))
    obtain ⟨v_325, T_325, L_325, X_325, hQ_325, st_325⟩ := goS X_322 hx hZ (y := Y_22) hown (wd_87 hw) (wd_88 hw) (wd_3 hw) (wd_89 hw) (by decide) (backOf (W := 0) (rm_tm l Z a0 hw zc vfm (v1_278) ((5 : Int32)) (fr) (tt) T_305.heap n0 (Nat.le_trans Z0 KP_305.1) hSt O_305) hZ (wd_89 hw) (wd_3 hw) (by decide) (by decide)) e_322 (g := (mkF m 198 #[vJ p0, .second, vJ p1, .second, vJ p2, .second, vI p3, vI p4, vR b262, vI fr, vI tt, vR b281, vJ (rdF (sel v1_263 v1_266 v1_269 v1_272 v1_275 v1_278) tt 6 fr (0 : Int64)), .second, vJ (tm v1_263 (0 : Int32) fr tt), .second, vJ (tm v1_266 (1 : Int32) fr tt), .second, vJ (tm v1_269 (2 : Int32) fr tt), .second, vJ (tm v1_272 (3 : Int32) fr tt), .second, vJ (tm v1_275 (4 : Int32) fr tt), .second, vU, vU, vU, vU] [(.int tt), (.int fr), (.int (5 : Int32)), (.int v1_278)])) rfl (by rw [hml]; rfl) (argsL := [(.int v1_278), (.int (5 : Int32)), (.int fr), (.int tt)]) (rest := []) rfl (lenOf pd_18 rfl) rfl (by show 2 * 0 + _ ≤ _; exact Nat.le_of_eq rfl) (hb hby at_198) (by decide) (by decide)
    obtain ⟨rfl, Nq_325, e_325⟩ := hQ_325
    have N_325 := Fr.app N_322 Nq_325
    refine Go.step st_325 ?_
    show Go p e below _ (T_325.setTop (mkF m 201 #[vJ p0, .second, vJ p1, .second, vJ p2, .second, vI p3, vI p4, vR b262, vI fr, vI tt, vR b281, vJ (rdF (sel v1_263 v1_266 v1_269 v1_272 v1_275 v1_278) tt 6 fr (0 : Int64)), .second, vJ (tm v1_263 (0 : Int32) fr tt), .second, vJ (tm v1_266 (1 : Int32) fr tt), .second, vJ (tm v1_269 (2 : Int32) fr tt), .second, vJ (tm v1_272 (3 : Int32) fr tt), .second, vJ (tm v1_275 (4 : Int32) fr tt), .second, vU, vU, vU, vU] [(.long (tm v1_278 (5 : Int32) fr tt))]))
    refine Go.step (fun _ k => XS.lstore X_325.here hx rfl (hb hby at_201) rfl (l' := #[vJ p0, .second, vJ p1, .second, vJ p2, .second, vI p3, vI p4, vR b262, vI fr, vI tt, vR b281, vJ (rdF (sel v1_263 v1_266 v1_269 v1_272 v1_275 v1_278) tt 6 fr (0 : Int64)), .second, vJ (tm v1_263 (0 : Int32) fr tt), .second, vJ (tm v1_266 (1 : Int32) fr tt), .second, vJ (tm v1_269 (2 : Int32) fr tt), .second, vJ (tm v1_272 (3 : Int32) fr tt), .second, vJ (tm v1_275 (4 : Int32) fr tt), .second, vJ (tm v1_278 (5 : Int32) fr tt), .second, vU, vU]) rfl k) ?_
    show Go p e below _ (T_325.setTop (mkF m 203 #[vJ p0, .second, vJ p1, .second, vJ p2, .second, vI p3, vI p4, vR b262, vI fr, vI tt, vR b281, vJ (rdF (sel v1_263 v1_266 v1_269 v1_272 v1_275 v1_278) tt 6 fr (0 : Int64)), .second, vJ (tm v1_263 (0 : Int32) fr tt), .second, vJ (tm v1_266 (1 : Int32) fr tt), .second, vJ (tm v1_269 (2 : Int32) fr tt), .second, vJ (tm v1_272 (3 : Int32) fr tt), .second, vJ (tm v1_275 (4 : Int32) fr tt), .second, vJ (tm v1_278 (5 : Int32) fr tt), .second, vU, vU] []))
    refine Go.step (fun _ k => XS.lload X_325.here hx rfl (hb hby at_203) rfl  k) ?_
    refine Go.step (fun _ k => XS.lconst X_325.here hx rfl (hb hby at_205) k) ?_
    show Go p e below _ (T_325.setTop (mkF m 206 #[vJ p0, .second, vJ p1, .second, vJ p2, .second, vI p3, vI p4, vR b262, vI fr, vI tt, vR b281, vJ (rdF (sel v1_263 v1_266 v1_269 v1_272 v1_275 v1_278) tt 6 fr (0 : Int64)), .second, vJ (tm v1_263 (0 : Int32) fr tt), .second, vJ (tm v1_266 (1 : Int32) fr tt), .second, vJ (tm v1_269 (2 : Int32) fr tt), .second, vJ (tm v1_272 (3 : Int32) fr tt), .second, vJ (tm v1_275 (4 : Int32) fr tt), .second, vJ (tm v1_278 (5 : Int32) fr tt), .second, vU, vU] [(.long (0 : Int64)), (.long (tm v1_263 (0 : Int32) fr tt))]))
    refine Go.step (fun _ k => XS.lcmp X_325.here hx rfl (hb hby at_206) rfl k) ?_
    show Go p e below _ (T_325.setTop (mkF m 207 #[vJ p0, .second, vJ p1, .second, vJ p2, .second, vI p3, vI p4, vR b262, vI fr, vI tt, vR b281, vJ (rdF (sel v1_263 v1_266 v1_269 v1_272 v1_275 v1_278) tt 6 fr (0 : Int64)), .second, vJ (tm v1_263 (0 : Int32) fr tt), .second, vJ (tm v1_266 (1 : Int32) fr tt), .second, vJ (tm v1_269 (2 : Int32) fr tt), .second, vJ (tm v1_272 (3 : Int32) fr tt), .second, vJ (tm v1_275 (4 : Int32) fr tt), .second, vJ (tm v1_278 (5 : Int32) fr tt), .second, vU, vU] [(.int (lcmpW (tm v1_263 (0 : Int32) fr tt) (0 : Int64)))]))
    by_cases w0 : (tm v1_263 (0 : Int32) fr tt) < (0 : Int64)
    · skip
      refine Go.step (fun _ k => XS.ifYes X_325.here hx rfl (pc0 := 207) (pc' := 245) rfl (hb hby at_207) rfl ((if0 _ _).trans (tlt ((lw_lt _ _).mpr w0)).1) (by decide) (by decide) k) ?_
      show Go p e below _ (T_325.setTop (mkF m 245 #[vJ p0, .second, vJ p1, .second, vJ p2, .second, vI p3, vI p4, vR b262, vI fr, vI tt, vR b281, vJ (rdF (sel v1_263 v1_266 v1_269 v1_272 v1_275 v1_278) tt 6 fr (0 : Int64)), .second, vJ (tm v1_263 (0 : Int32) fr tt), .second, vJ (tm v1_266 (1 : Int32) fr tt), .second, vJ (tm v1_269 (2 : Int32) fr tt), .second, vJ (tm v1_272 (3 : Int32) fr tt), .second, vJ (tm v1_275 (4 : Int32) fr tt), .second, vJ (tm v1_278 (5 : Int32) fr tt), .second, vU, vU] []))
      refine Go.step (fun _ k => X_325.ldc2Long hx hown (mvT hZ (wd_93 hw)) (g := (mkF m 245 #[vJ p0, .second, vJ p1, .second, vJ p2, .second, vI p3, vI p4, vR b262, vI fr, vI tt, vR b281, vJ (rdF (sel v1_263 v1_266 v1_269 v1_272 v1_275 v1_278) tt 6 fr (0 : Int64)), .second, vJ (tm v1_263 (0 : Int32) fr tt), .second, vJ (tm v1_266 (1 : Int32) fr tt), .second, vJ (tm v1_269 (2 : Int32) fr tt), .second, vJ (tm v1_272 (3 : Int32) fr tt), .second, vJ (tm v1_275 (4 : Int32) fr tt), .second, vJ (tm v1_278 (5 : Int32) fr tt), .second, vU, vU] [])) rfl (hb hby at_245) _ k) ?_
      show Go p e below _ (T_325.setTop (mkF m 248 #[vJ p0, .second, vJ p1, .second, vJ p2, .second, vI p3, vI p4, vR b262, vI fr, vI tt, vR b281, vJ (rdF (sel v1_263 v1_266 v1_269 v1_272 v1_275 v1_278) tt 6 fr (0 : Int64)), .second, vJ (tm v1_263 (0 : Int32) fr tt), .second, vJ (tm v1_266 (1 : Int32) fr tt), .second, vJ (tm v1_269 (2 : Int32) fr tt), .second, vJ (tm v1_272 (3 : Int32) fr tt), .second, vJ (tm v1_275 (4 : Int32) fr tt), .second, vJ (tm v1_278 (5 : Int32) fr tt), .second, vU, vU] [(.long (-1 : Int64))]))
      refine Go.step (fun _ k => XS.lstore X_325.here hx rfl (hb hby at_248) rfl (l' := #[vJ p0, .second, vJ p1, .second, vJ p2, .second, vI p3, vI p4, vR b262, vI fr, vI tt, vR b281, vJ (rdF (sel v1_263 v1_266 v1_269 v1_272 v1_275 v1_278) tt 6 fr (0 : Int64)), .second, vJ (tm v1_263 (0 : Int32) fr tt), .second, vJ (tm v1_266 (1 : Int32) fr tt), .second, vJ (tm v1_269 (2 : Int32) fr tt), .second, vJ (tm v1_272 (3 : Int32) fr tt), .second, vJ (tm v1_275 (4 : Int32) fr tt), .second, vJ (tm v1_278 (5 : Int32) fr tt), .second, vJ (-1), .second]) rfl k) ?_
      show Go p e below _ (T_325.setTop (mkF m 250 #[vJ p0, .second, vJ p1, .second, vJ p2, .second, vI p3, vI p4, vR b262, vI fr, vI tt, vR b281, vJ (rdF (sel v1_263 v1_266 v1_269 v1_272 v1_275 v1_278) tt 6 fr (0 : Int64)), .second, vJ (tm v1_263 (0 : Int32) fr tt), .second, vJ (tm v1_266 (1 : Int32) fr tt), .second, vJ (tm v1_269 (2 : Int32) fr tt), .second, vJ (tm v1_272 (3 : Int32) fr tt), .second, vJ (tm v1_275 (4 : Int32) fr tt), .second, vJ (tm v1_278 (5 : Int32) fr tt), .second, vJ (-1), .second] []))
      refine Go.step (fun _ k => XS.goto X_325.here hx rfl (pc0 := 250) (pc' := 272) rfl (hb hby at_250) (by decide) (by decide) k) ?_
      show Go p e below _ (T_325.setTop (mkF m 272 #[vJ p0, .second, vJ p1, .second, vJ p2, .second, vI p3, vI p4, vR b262, vI fr, vI tt, vR b281, vJ (rdF (sel v1_263 v1_266 v1_269 v1_272 v1_275 v1_278) tt 6 fr (0 : Int64)), .second, vJ (tm v1_263 (0 : Int32) fr tt), .second, vJ (tm v1_266 (1 : Int32) fr tt), .second, vJ (tm v1_269 (2 : Int32) fr tt), .second, vJ (tm v1_272 (3 : Int32) fr tt), .second, vJ (tm v1_275 (4 : Int32) fr tt), .second, vJ (tm v1_278 (5 : Int32) fr tt), .second, vJ (-1), .second] []))
      refine Go.step (fun _ k => XS.lload X_325.here hx rfl (hb hby at_272) rfl  k) ?_
      refine Go.step (fun _ k => XS.lload X_325.here hx rfl (hb hby at_274) rfl  k) ?_
      show Go p e below _ (T_325.setTop (mkF m 276 #[vJ p0, .second, vJ p1, .second, vJ p2, .second, vI p3, vI p4, vR b262, vI fr, vI tt, vR b281, vJ (rdF (sel v1_263 v1_266 v1_269 v1_272 v1_275 v1_278) tt 6 fr (0 : Int64)), .second, vJ (tm v1_263 (0 : Int32) fr tt), .second, vJ (tm v1_266 (1 : Int32) fr tt), .second, vJ (tm v1_269 (2 : Int32) fr tt), .second, vJ (tm v1_272 (3 : Int32) fr tt), .second, vJ (tm v1_275 (4 : Int32) fr tt), .second, vJ (tm v1_278 (5 : Int32) fr tt), .second, vJ (-1), .second] [(.long (-1 : Int64)), (.long (rdF (sel v1_263 v1_266 v1_269 v1_272 v1_275 v1_278) tt 6 fr (0 : Int64)))]))
      refine Go.step (fun _ k => XS.lcmp X_325.here hx rfl (hb hby at_276) rfl k) ?_
      show Go p e below _ (T_325.setTop (mkF m 277 #[vJ p0, .second, vJ p1, .second, vJ p2, .second, vI p3, vI p4, vR b262, vI fr, vI tt, vR b281, vJ (rdF (sel v1_263 v1_266 v1_269 v1_272 v1_275 v1_278) tt 6 fr (0 : Int64)), .second, vJ (tm v1_263 (0 : Int32) fr tt), .second, vJ (tm v1_266 (1 : Int32) fr tt), .second, vJ (tm v1_269 (2 : Int32) fr tt), .second, vJ (tm v1_272 (3 : Int32) fr tt), .second, vJ (tm v1_275 (4 : Int32) fr tt), .second, vJ (tm v1_278 (5 : Int32) fr tt), .second, vJ (-1), .second] [(.int (lcmpW (rdF (sel v1_263 v1_266 v1_269 v1_272 v1_275 v1_278) tt 6 fr (0 : Int64)) (-1 : Int64)))]))
      refine Go.step (fun _ k => XS.ifNo X_325.here hx rfl (hb hby at_277) rfl ((if0 _ _).trans (teq ((lw_eq _ _).mpr ((math0 hh0 hh1 hh2 hh3 hh4 hh5 h_ft w0) : (rdF (sel v1_263 v1_266 v1_269 v1_272 v1_275 v1_278) tt 6 fr (0 : Int64)) = (-1 : Int64)))).2) k) ?_
      show Go p e below _ (T_325.setTop (mkF m 280 #[vJ p0, .second, vJ p1, .second, vJ p2, .second, vI p3, vI p4, vR b262, vI fr, vI tt, vR b281, vJ (rdF (sel v1_263 v1_266 v1_269 v1_272 v1_275 v1_278) tt 6 fr (0 : Int64)), .second, vJ (tm v1_263 (0 : Int32) fr tt), .second, vJ (tm v1_266 (1 : Int32) fr tt), .second, vJ (tm v1_269 (2 : Int32) fr tt), .second, vJ (tm v1_272 (3 : Int32) fr tt), .second, vJ (tm v1_275 (4 : Int32) fr tt), .second, vJ (tm v1_278 (5 : Int32) fr tt), .second, vJ (-1), .second] []))
      refine Go.step (fun _ k => XS.iconst X_325.here hx rfl (hb hby at_280) k) ?_
      show Go p e below _ (T_325.setTop (mkF m 281 #[vJ p0, .second, vJ p1, .second, vJ p2, .second, vI p3, vI p4, vR b262, vI fr, vI tt, vR b281, vJ (rdF (sel v1_263 v1_266 v1_269 v1_272 v1_275 v1_278) tt 6 fr (0 : Int64)), .second, vJ (tm v1_263 (0 : Int32) fr tt), .second, vJ (tm v1_266 (1 : Int32) fr tt), .second, vJ (tm v1_269 (2 : Int32) fr tt), .second, vJ (tm v1_272 (3 : Int32) fr tt), .second, vJ (tm v1_275 (4 : Int32) fr tt), .second, vJ (tm v1_278 (5 : Int32) fr tt), .second, vJ (-1), .second] [(.int (1 : Int32))]))
      refine Go.step (fun _ k => XS.goto X_325.here hx rfl (pc0 := 281) (pc' := 285) rfl (hb hby at_281) (by decide) (by decide) k) ?_
      show Go p e below _ (T_325.setTop (mkF m 285 #[vJ p0, .second, vJ p1, .second, vJ p2, .second, vI p3, vI p4, vR b262, vI fr, vI tt, vR b281, vJ (rdF (sel v1_263 v1_266 v1_269 v1_272 v1_275 v1_278) tt 6 fr (0 : Int64)), .second, vJ (tm v1_263 (0 : Int32) fr tt), .second, vJ (tm v1_266 (1 : Int32) fr tt), .second, vJ (tm v1_269 (2 : Int32) fr tt), .second, vJ (tm v1_272 (3 : Int32) fr tt), .second, vJ (tm v1_275 (4 : Int32) fr tt), .second, vJ (tm v1_278 (5 : Int32) fr tt), .second, vJ (-1), .second] [(.int (1 : Int32))]))
      exact Go.retV X_325 hx hlk hret rfl (Or.inl ⟨rfl, Or.inr (Or.inl rfl), _, rfl⟩) (hb hby at_285) (by decide) (by decide) (by rw [e_325]; exact ⟨rfl, N_325⟩)
    · skip
      refine Go.step (fun _ k => XS.ifNo X_325.here hx rfl (hb hby at_207) rfl ((if0 _ _).trans (flt (fun q => w0 ((lw_lt _ _).mp q))).1) k) ?_
      show Go p e below _ (T_325.setTop (mkF m 210 #[vJ p0, .second, vJ p1, .second, vJ p2, .second, vI p3, vI p4, vR b262, vI fr, vI tt, vR b281, vJ (rdF (sel v1_263 v1_266 v1_269 v1_272 v1_275 v1_278) tt 6 fr (0 : Int64)), .second, vJ (tm v1_263 (0 : Int32) fr tt), .second, vJ (tm v1_266 (1 : Int32) fr tt), .second, vJ (tm v1_269 (2 : Int32) fr tt), .second, vJ (tm v1_272 (3 : Int32) fr tt), .second, vJ (tm v1_275 (4 : Int32) fr tt), .second, vJ (tm v1_278 (5 : Int32) fr tt), .second, vU, vU] []))
      refine Go.step (fun _ k => XS.lload X_325.here hx rfl (hb hby at_210) rfl  k) ?_
      refine Go.step (fun _ k => XS.lconst X_325.here hx rfl (hb hby at_212) k) ?_
      show Go p e below _ (T_325.setTop (mkF m 213 #[vJ p0, .second, vJ p1, .second, vJ p2, .second, vI p3, vI p4, vR b262, vI fr, vI tt, vR b281, vJ (rdF (sel v1_263 v1_266 v1_269 v1_272 v1_275 v1_278) tt 6 fr (0 : Int64)), .second, vJ (tm v1_263 (0 : Int32) fr tt), .second, vJ (tm v1_266 (1 : Int32) fr tt), .second, vJ (tm v1_269 (2 : Int32) fr tt), .second, vJ (tm v1_272 (3 : Int32) fr tt), .second, vJ (tm v1_275 (4 : Int32) fr tt), .second, vJ (tm v1_278 (5 : Int32) fr tt), .second, vU, vU] [(.long (0 : Int64)), (.long (tm v1_266 (1 : Int32) fr tt))]))
      refine Go.step (fun _ k => XS.lcmp X_325.here hx rfl (hb hby at_213) rfl k) ?_
      show Go p e below _ (T_325.setTop (mkF m 214 #[vJ p0, .second, vJ p1, .second, vJ p2, .second, vI p3, vI p4, vR b262, vI fr, vI tt, vR b281, vJ (rdF (sel v1_263 v1_266 v1_269 v1_272 v1_275 v1_278) tt 6 fr (0 : Int64)), .second, vJ (tm v1_263 (0 : Int32) fr tt), .second, vJ (tm v1_266 (1 : Int32) fr tt), .second, vJ (tm v1_269 (2 : Int32) fr tt), .second, vJ (tm v1_272 (3 : Int32) fr tt), .second, vJ (tm v1_275 (4 : Int32) fr tt), .second, vJ (tm v1_278 (5 : Int32) fr tt), .second, vU, vU] [(.int (lcmpW (tm v1_266 (1 : Int32) fr tt) (0 : Int64)))]))
      by_cases w1 : (tm v1_266 (1 : Int32) fr tt) < (0 : Int64)
      · skip
        refine Go.step (fun _ k => XS.ifYes X_325.here hx rfl (pc0 := 214) (pc' := 245) rfl (hb hby at_214) rfl ((if0 _ _).trans (tlt ((lw_lt _ _).mpr w1)).1) (by decide) (by decide) k) ?_
        show Go p e below _ (T_325.setTop (mkF m 245 #[vJ p0, .second, vJ p1, .second, vJ p2, .second, vI p3, vI p4, vR b262, vI fr, vI tt, vR b281, vJ (rdF (sel v1_263 v1_266 v1_269 v1_272 v1_275 v1_278) tt 6 fr (0 : Int64)), .second, vJ (tm v1_263 (0 : Int32) fr tt), .second, vJ (tm v1_266 (1 : Int32) fr tt), .second, vJ (tm v1_269 (2 : Int32) fr tt), .second, vJ (tm v1_272 (3 : Int32) fr tt), .second, vJ (tm v1_275 (4 : Int32) fr tt), .second, vJ (tm v1_278 (5 : Int32) fr tt), .second, vU, vU] []))
        refine Go.step (fun _ k => X_325.ldc2Long hx hown (mvT hZ (wd_93 hw)) (g := (mkF m 245 #[vJ p0, .second, vJ p1, .second, vJ p2, .second, vI p3, vI p4, vR b262, vI fr, vI tt, vR b281, vJ (rdF (sel v1_263 v1_266 v1_269 v1_272 v1_275 v1_278) tt 6 fr (0 : Int64)), .second, vJ (tm v1_263 (0 : Int32) fr tt), .second, vJ (tm v1_266 (1 : Int32) fr tt), .second, vJ (tm v1_269 (2 : Int32) fr tt), .second, vJ (tm v1_272 (3 : Int32) fr tt), .second, vJ (tm v1_275 (4 : Int32) fr tt), .second, vJ (tm v1_278 (5 : Int32) fr tt), .second, vU, vU] [])) rfl (hb hby at_245) _ k) ?_
        show Go p e below _ (T_325.setTop (mkF m 248 #[vJ p0, .second, vJ p1, .second, vJ p2, .second, vI p3, vI p4, vR b262, vI fr, vI tt, vR b281, vJ (rdF (sel v1_263 v1_266 v1_269 v1_272 v1_275 v1_278) tt 6 fr (0 : Int64)), .second, vJ (tm v1_263 (0 : Int32) fr tt), .second, vJ (tm v1_266 (1 : Int32) fr tt), .second, vJ (tm v1_269 (2 : Int32) fr tt), .second, vJ (tm v1_272 (3 : Int32) fr tt), .second, vJ (tm v1_275 (4 : Int32) fr tt), .second, vJ (tm v1_278 (5 : Int32) fr tt), .second, vU, vU] [(.long (-1 : Int64))]))
        refine Go.step (fun _ k => XS.lstore X_325.here hx rfl (hb hby at_248) rfl (l' := #[vJ p0, .second, vJ p1, .second, vJ p2, .second, vI p3, vI p4, vR b262, vI fr, vI tt, vR b281, vJ (rdF (sel v1_263 v1_266 v1_269 v1_272 v1_275 v1_278) tt 6 fr (0 : Int64)), .second, vJ (tm v1_263 (0 : Int32) fr tt), .second, vJ (tm v1_266 (1 : Int32) fr tt), .second, vJ (tm v1_269 (2 : Int32) fr tt), .second, vJ (tm v1_272 (3 : Int32) fr tt), .second, vJ (tm v1_275 (4 : Int32) fr tt), .second, vJ (tm v1_278 (5 : Int32) fr tt), .second, vJ (-1), .second]) rfl k) ?_
        show Go p e below _ (T_325.setTop (mkF m 250 #[vJ p0, .second, vJ p1, .second, vJ p2, .second, vI p3, vI p4, vR b262, vI fr, vI tt, vR b281, vJ (rdF (sel v1_263 v1_266 v1_269 v1_272 v1_275 v1_278) tt 6 fr (0 : Int64)), .second, vJ (tm v1_263 (0 : Int32) fr tt), .second, vJ (tm v1_266 (1 : Int32) fr tt), .second, vJ (tm v1_269 (2 : Int32) fr tt), .second, vJ (tm v1_272 (3 : Int32) fr tt), .second, vJ (tm v1_275 (4 : Int32) fr tt), .second, vJ (tm v1_278 (5 : Int32) fr tt), .second, vJ (-1), .second] []))
        refine Go.step (fun _ k => XS.goto X_325.here hx rfl (pc0 := 250) (pc' := 272) rfl (hb hby at_250) (by decide) (by decide) k) ?_
        show Go p e below _ (T_325.setTop (mkF m 272 #[vJ p0, .second, vJ p1, .second, vJ p2, .second, vI p3, vI p4, vR b262, vI fr, vI tt, vR b281, vJ (rdF (sel v1_263 v1_266 v1_269 v1_272 v1_275 v1_278) tt 6 fr (0 : Int64)), .second, vJ (tm v1_263 (0 : Int32) fr tt), .second, vJ (tm v1_266 (1 : Int32) fr tt), .second, vJ (tm v1_269 (2 : Int32) fr tt), .second, vJ (tm v1_272 (3 : Int32) fr tt), .second, vJ (tm v1_275 (4 : Int32) fr tt), .second, vJ (tm v1_278 (5 : Int32) fr tt), .second, vJ (-1), .second] []))
        refine Go.step (fun _ k => XS.lload X_325.here hx rfl (hb hby at_272) rfl  k) ?_
        refine Go.step (fun _ k => XS.lload X_325.here hx rfl (hb hby at_274) rfl  k) ?_
        show Go p e below _ (T_325.setTop (mkF m 276 #[vJ p0, .second, vJ p1, .second, vJ p2, .second, vI p3, vI p4, vR b262, vI fr, vI tt, vR b281, vJ (rdF (sel v1_263 v1_266 v1_269 v1_272 v1_275 v1_278) tt 6 fr (0 : Int64)), .second, vJ (tm v1_263 (0 : Int32) fr tt), .second, vJ (tm v1_266 (1 : Int32) fr tt), .second, vJ (tm v1_269 (2 : Int32) fr tt), .second, vJ (tm v1_272 (3 : Int32) fr tt), .second, vJ (tm v1_275 (4 : Int32) fr tt), .second, vJ (tm v1_278 (5 : Int32) fr tt), .second, vJ (-1), .second] [(.long (-1 : Int64)), (.long (rdF (sel v1_263 v1_266 v1_269 v1_272 v1_275 v1_278) tt 6 fr (0 : Int64)))]))
        refine Go.step (fun _ k => XS.lcmp X_325.here hx rfl (hb hby at_276) rfl k) ?_
        show Go p e below _ (T_325.setTop (mkF m 277 #[vJ p0, .second, vJ p1, .second, vJ p2, .second, vI p3, vI p4, vR b262, vI fr, vI tt, vR b281, vJ (rdF (sel v1_263 v1_266 v1_269 v1_272 v1_275 v1_278) tt 6 fr (0 : Int64)), .second, vJ (tm v1_263 (0 : Int32) fr tt), .second, vJ (tm v1_266 (1 : Int32) fr tt), .second, vJ (tm v1_269 (2 : Int32) fr tt), .second, vJ (tm v1_272 (3 : Int32) fr tt), .second, vJ (tm v1_275 (4 : Int32) fr tt), .second, vJ (tm v1_278 (5 : Int32) fr tt), .second, vJ (-1), .second] [(.int (lcmpW (rdF (sel v1_263 v1_266 v1_269 v1_272 v1_275 v1_278) tt 6 fr (0 : Int64)) (-1 : Int64)))]))
        refine Go.step (fun _ k => XS.ifNo X_325.here hx rfl (hb hby at_277) rfl ((if0 _ _).trans (teq ((lw_eq _ _).mpr ((math1 hh0 hh1 hh2 hh3 hh4 hh5 h_ft w0 w1) : (rdF (sel v1_263 v1_266 v1_269 v1_272 v1_275 v1_278) tt 6 fr (0 : Int64)) = (-1 : Int64)))).2) k) ?_
        show Go p e below _ (T_325.setTop (mkF m 280 #[vJ p0, .second, vJ p1, .second, vJ p2, .second, vI p3, vI p4, vR b262, vI fr, vI tt, vR b281, vJ (rdF (sel v1_263 v1_266 v1_269 v1_272 v1_275 v1_278) tt 6 fr (0 : Int64)), .second, vJ (tm v1_263 (0 : Int32) fr tt), .second, vJ (tm v1_266 (1 : Int32) fr tt), .second, vJ (tm v1_269 (2 : Int32) fr tt), .second, vJ (tm v1_272 (3 : Int32) fr tt), .second, vJ (tm v1_275 (4 : Int32) fr tt), .second, vJ (tm v1_278 (5 : Int32) fr tt), .second, vJ (-1), .second] []))
        refine Go.step (fun _ k => XS.iconst X_325.here hx rfl (hb hby at_280) k) ?_
        show Go p e below _ (T_325.setTop (mkF m 281 #[vJ p0, .second, vJ p1, .second, vJ p2, .second, vI p3, vI p4, vR b262, vI fr, vI tt, vR b281, vJ (rdF (sel v1_263 v1_266 v1_269 v1_272 v1_275 v1_278) tt 6 fr (0 : Int64)), .second, vJ (tm v1_263 (0 : Int32) fr tt), .second, vJ (tm v1_266 (1 : Int32) fr tt), .second, vJ (tm v1_269 (2 : Int32) fr tt), .second, vJ (tm v1_272 (3 : Int32) fr tt), .second, vJ (tm v1_275 (4 : Int32) fr tt), .second, vJ (tm v1_278 (5 : Int32) fr tt), .second, vJ (-1), .second] [(.int (1 : Int32))]))
        refine Go.step (fun _ k => XS.goto X_325.here hx rfl (pc0 := 281) (pc' := 285) rfl (hb hby at_281) (by decide) (by decide) k) ?_
        show Go p e below _ (T_325.setTop (mkF m 285 #[vJ p0, .second, vJ p1, .second, vJ p2, .second, vI p3, vI p4, vR b262, vI fr, vI tt, vR b281, vJ (rdF (sel v1_263 v1_266 v1_269 v1_272 v1_275 v1_278) tt 6 fr (0 : Int64)), .second, vJ (tm v1_263 (0 : Int32) fr tt), .second, vJ (tm v1_266 (1 : Int32) fr tt), .second, vJ (tm v1_269 (2 : Int32) fr tt), .second, vJ (tm v1_272 (3 : Int32) fr tt), .second, vJ (tm v1_275 (4 : Int32) fr tt), .second, vJ (tm v1_278 (5 : Int32) fr tt), .second, vJ (-1), .second] [(.int (1 : Int32))]))
        exact Go.retV X_325 hx hlk hret rfl (Or.inl ⟨rfl, Or.inr (Or.inl rfl), _, rfl⟩) (hb hby at_285) (by decide) (by decide) (by rw [e_325]; exact ⟨rfl, N_325⟩)
      · skip
        refine Go.step (fun _ k => XS.ifNo X_325.here hx rfl (hb hby at_214) rfl ((if0 _ _).trans (flt (fun q => w1 ((lw_lt _ _).mp q))).1) k) ?_
        show Go p e below _ (T_325.setTop (mkF m 217 #[vJ p0, .second, vJ p1, .second, vJ p2, .second, vI p3, vI p4, vR b262, vI fr, vI tt, vR b281, vJ (rdF (sel v1_263 v1_266 v1_269 v1_272 v1_275 v1_278) tt 6 fr (0 : Int64)), .second, vJ (tm v1_263 (0 : Int32) fr tt), .second, vJ (tm v1_266 (1 : Int32) fr tt), .second, vJ (tm v1_269 (2 : Int32) fr tt), .second, vJ (tm v1_272 (3 : Int32) fr tt), .second, vJ (tm v1_275 (4 : Int32) fr tt), .second, vJ (tm v1_278 (5 : Int32) fr tt), .second, vU, vU] []))
        refine Go.step (fun _ k => XS.lload X_325.here hx rfl (hb hby at_217) rfl  k) ?_
        refine Go.step (fun _ k => XS.lconst X_325.here hx rfl (hb hby at_219) k) ?_
        show Go p e below _ (T_325.setTop (mkF m 220 #[vJ p0, .second, vJ p1, .second, vJ p2, .second, vI p3, vI p4, vR b262, vI fr, vI tt, vR b281, vJ (rdF (sel v1_263 v1_266 v1_269 v1_272 v1_275 v1_278) tt 6 fr (0 : Int64)), .second, vJ (tm v1_263 (0 : Int32) fr tt), .second, vJ (tm v1_266 (1 : Int32) fr tt), .second, vJ (tm v1_269 (2 : Int32) fr tt), .second, vJ (tm v1_272 (3 : Int32) fr tt), .second, vJ (tm v1_275 (4 : Int32) fr tt), .second, vJ (tm v1_278 (5 : Int32) fr tt), .second, vU, vU] [(.long (0 : Int64)), (.long (tm v1_269 (2 : Int32) fr tt))]))
        refine Go.step (fun _ k => XS.lcmp X_325.here hx rfl (hb hby at_220) rfl k) ?_
        show Go p e below _ (T_325.setTop (mkF m 221 #[vJ p0, .second, vJ p1, .second, vJ p2, .second, vI p3, vI p4, vR b262, vI fr, vI tt, vR b281, vJ (rdF (sel v1_263 v1_266 v1_269 v1_272 v1_275 v1_278) tt 6 fr (0 : Int64)), .second, vJ (tm v1_263 (0 : Int32) fr tt), .second, vJ (tm v1_266 (1 : Int32) fr tt), .second, vJ (tm v1_269 (2 : Int32) fr tt), .second, vJ (tm v1_272 (3 : Int32) fr tt), .second, vJ (tm v1_275 (4 : Int32) fr tt), .second, vJ (tm v1_278 (5 : Int32) fr tt), .second, vU, vU] [(.int (lcmpW (tm v1_269 (2 : Int32) fr tt) (0 : Int64)))]))
        by_cases w2 : (tm v1_269 (2 : Int32) fr tt) < (0 : Int64)
        · skip
          refine Go.step (fun _ k => XS.ifYes X_325.here hx rfl (pc0 := 221) (pc' := 245) rfl (hb hby at_221) rfl ((if0 _ _).trans (tlt ((lw_lt _ _).mpr w2)).1) (by decide) (by decide) k) ?_
          show Go p e below _ (T_325.setTop (mkF m 245 #[vJ p0, .second, vJ p1, .second, vJ p2, .second, vI p3, vI p4, vR b262, vI fr, vI tt, vR b281, vJ (rdF (sel v1_263 v1_266 v1_269 v1_272 v1_275 v1_278) tt 6 fr (0 : Int64)), .second, vJ (tm v1_263 (0 : Int32) fr tt), .second, vJ (tm v1_266 (1 : Int32) fr tt), .second, vJ (tm v1_269 (2 : Int32) fr tt), .second, vJ (tm v1_272 (3 : Int32) fr tt), .second, vJ (tm v1_275 (4 : Int32) fr tt), .second, vJ (tm v1_278 (5 : Int32) fr tt), .second, vU, vU] []))
          refine Go.step (fun _ k => X_325.ldc2Long hx hown (mvT hZ (wd_93 hw)) (g := (mkF m 245 #[vJ p0, .second, vJ p1, .second, vJ p2, .second, vI p3, vI p4, vR b262, vI fr, vI tt, vR b281, vJ (rdF (sel v1_263 v1_266 v1_269 v1_272 v1_275 v1_278) tt 6 fr (0 : Int64)), .second, vJ (tm v1_263 (0 : Int32) fr tt), .second, vJ (tm v1_266 (1 : Int32) fr tt), .second, vJ (tm v1_269 (2 : Int32) fr tt), .second, vJ (tm v1_272 (3 : Int32) fr tt), .second, vJ (tm v1_275 (4 : Int32) fr tt), .second, vJ (tm v1_278 (5 : Int32) fr tt), .second, vU, vU] [])) rfl (hb hby at_245) _ k) ?_
          show Go p e below _ (T_325.setTop (mkF m 248 #[vJ p0, .second, vJ p1, .second, vJ p2, .second, vI p3, vI p4, vR b262, vI fr, vI tt, vR b281, vJ (rdF (sel v1_263 v1_266 v1_269 v1_272 v1_275 v1_278) tt 6 fr (0 : Int64)), .second, vJ (tm v1_263 (0 : Int32) fr tt), .second, vJ (tm v1_266 (1 : Int32) fr tt), .second, vJ (tm v1_269 (2 : Int32) fr tt), .second, vJ (tm v1_272 (3 : Int32) fr tt), .second, vJ (tm v1_275 (4 : Int32) fr tt), .second, vJ (tm v1_278 (5 : Int32) fr tt), .second, vU, vU] [(.long (-1 : Int64))]))
          refine Go.step (fun _ k => XS.lstore X_325.here hx rfl (hb hby at_248) rfl (l' := #[vJ p0, .second, vJ p1, .second, vJ p2, .second, vI p3, vI p4, vR b262, vI fr, vI tt, vR b281, vJ (rdF (sel v1_263 v1_266 v1_269 v1_272 v1_275 v1_278) tt 6 fr (0 : Int64)), .second, vJ (tm v1_263 (0 : Int32) fr tt), .second, vJ (tm v1_266 (1 : Int32) fr tt), .second, vJ (tm v1_269 (2 : Int32) fr tt), .second, vJ (tm v1_272 (3 : Int32) fr tt), .second, vJ (tm v1_275 (4 : Int32) fr tt), .second, vJ (tm v1_278 (5 : Int32) fr tt), .second, vJ (-1), .second]) rfl k) ?_
          show Go p e below _ (T_325.setTop (mkF m 250 #[vJ p0, .second, vJ p1, .second, vJ p2, .second, vI p3, vI p4, vR b262, vI fr, vI tt, vR b281, vJ (rdF (sel v1_263 v1_266 v1_269 v1_272 v1_275 v1_278) tt 6 fr (0 : Int64)), .second, vJ (tm v1_263 (0 : Int32) fr tt), .second, vJ (tm v1_266 (1 : Int32) fr tt), .second, vJ (tm v1_269 (2 : Int32) fr tt), .second, vJ (tm v1_272 (3 : Int32) fr tt), .second, vJ (tm v1_275 (4 : Int32) fr tt), .second, vJ (tm v1_278 (5 : Int32) fr tt), .second, vJ (-1), .second] []))
          refine Go.step (fun _ k => XS.goto X_325.here hx rfl (pc0 := 250) (pc' := 272) rfl (hb hby at_250) (by decide) (by decide) k) ?_
          show Go p e below _ (T_325.setTop (mkF m 272 #[vJ p0, .second, vJ p1, .second, vJ p2, .second, vI p3, vI p4, vR b262, vI fr, vI tt, vR b281, vJ (rdF (sel v1_263 v1_266 v1_269 v1_272 v1_275 v1_278) tt 6 fr (0 : Int64)), .second, vJ (tm v1_263 (0 : Int32) fr tt), .second, vJ (tm v1_266 (1 : Int32) fr tt), .second, vJ (tm v1_269 (2 : Int32) fr tt), .second, vJ (tm v1_272 (3 : Int32) fr tt), .second, vJ (tm v1_275 (4 : Int32) fr tt), .second, vJ (tm v1_278 (5 : Int32) fr tt), .second, vJ (-1), .second] []))
          refine Go.step (fun _ k => XS.lload X_325.here hx rfl (hb hby at_272) rfl  k) ?_
          refine Go.step (fun _ k => XS.lload X_325.here hx rfl (hb hby at_274) rfl  k) ?_
          show Go p e below _ (T_325.setTop (mkF m 276 #[vJ p0, .second, vJ p1, .second, vJ p2, .second, vI p3, vI p4, vR b262, vI fr, vI tt, vR b281, vJ (rdF (sel v1_263 v1_266 v1_269 v1_272 v1_275 v1_278) tt 6 fr (0 : Int64)), .second, vJ (tm v1_263 (0 : Int32) fr tt), .second, vJ (tm v1_266 (1 : Int32) fr tt), .second, vJ (tm v1_269 (2 : Int32) fr tt), .second, vJ (tm v1_272 (3 : Int32) fr tt), .second, vJ (tm v1_275 (4 : Int32) fr tt), .second, vJ (tm v1_278 (5 : Int32) fr tt), .second, vJ (-1), .second] [(.long (-1 : Int64)), (.long (rdF (sel v1_263 v1_266 v1_269 v1_272 v1_275 v1_278) tt 6 fr (0 : Int64)))]))
          refine Go.step (fun _ k => XS.lcmp X_325.here hx rfl (hb hby at_276) rfl k) ?_
          show Go p e below _ (T_325.setTop (mkF m 277 #[vJ p0, .second, vJ p1, .second, vJ p2, .second, vI p3, vI p4, vR b262, vI fr, vI tt, vR b281, vJ (rdF (sel v1_263 v1_266 v1_269 v1_272 v1_275 v1_278) tt 6 fr (0 : Int64)), .second, vJ (tm v1_263 (0 : Int32) fr tt), .second, vJ (tm v1_266 (1 : Int32) fr tt), .second, vJ (tm v1_269 (2 : Int32) fr tt), .second, vJ (tm v1_272 (3 : Int32) fr tt), .second, vJ (tm v1_275 (4 : Int32) fr tt), .second, vJ (tm v1_278 (5 : Int32) fr tt), .second, vJ (-1), .second] [(.int (lcmpW (rdF (sel v1_263 v1_266 v1_269 v1_272 v1_275 v1_278) tt 6 fr (0 : Int64)) (-1 : Int64)))]))
          refine Go.step (fun _ k => XS.ifNo X_325.here hx rfl (hb hby at_277) rfl ((if0 _ _).trans (teq ((lw_eq _ _).mpr ((math2 hh0 hh1 hh2 hh3 hh4 hh5 h_ft w0 w1 w2) : (rdF (sel v1_263 v1_266 v1_269 v1_272 v1_275 v1_278) tt 6 fr (0 : Int64)) = (-1 : Int64)))).2) k) ?_
          show Go p e below _ (T_325.setTop (mkF m 280 #[vJ p0, .second, vJ p1, .second, vJ p2, .second, vI p3, vI p4, vR b262, vI fr, vI tt, vR b281, vJ (rdF (sel v1_263 v1_266 v1_269 v1_272 v1_275 v1_278) tt 6 fr (0 : Int64)), .second, vJ (tm v1_263 (0 : Int32) fr tt), .second, vJ (tm v1_266 (1 : Int32) fr tt), .second, vJ (tm v1_269 (2 : Int32) fr tt), .second, vJ (tm v1_272 (3 : Int32) fr tt), .second, vJ (tm v1_275 (4 : Int32) fr tt), .second, vJ (tm v1_278 (5 : Int32) fr tt), .second, vJ (-1), .second] []))
          refine Go.step (fun _ k => XS.iconst X_325.here hx rfl (hb hby at_280) k) ?_
          show Go p e below _ (T_325.setTop (mkF m 281 #[vJ p0, .second, vJ p1, .second, vJ p2, .second, vI p3, vI p4, vR b262, vI fr, vI tt, vR b281, vJ (rdF (sel v1_263 v1_266 v1_269 v1_272 v1_275 v1_278) tt 6 fr (0 : Int64)), .second, vJ (tm v1_263 (0 : Int32) fr tt), .second, vJ (tm v1_266 (1 : Int32) fr tt), .second, vJ (tm v1_269 (2 : Int32) fr tt), .second, vJ (tm v1_272 (3 : Int32) fr tt), .second, vJ (tm v1_275 (4 : Int32) fr tt), .second, vJ (tm v1_278 (5 : Int32) fr tt), .second, vJ (-1), .second] [(.int (1 : Int32))]))
          refine Go.step (fun _ k => XS.goto X_325.here hx rfl (pc0 := 281) (pc' := 285) rfl (hb hby at_281) (by decide) (by decide) k) ?_
          show Go p e below _ (T_325.setTop (mkF m 285 #[vJ p0, .second, vJ p1, .second, vJ p2, .second, vI p3, vI p4, vR b262, vI fr, vI tt, vR b281, vJ (rdF (sel v1_263 v1_266 v1_269 v1_272 v1_275 v1_278) tt 6 fr (0 : Int64)), .second, vJ (tm v1_263 (0 : Int32) fr tt), .second, vJ (tm v1_266 (1 : Int32) fr tt), .second, vJ (tm v1_269 (2 : Int32) fr tt), .second, vJ (tm v1_272 (3 : Int32) fr tt), .second, vJ (tm v1_275 (4 : Int32) fr tt), .second, vJ (tm v1_278 (5 : Int32) fr tt), .second, vJ (-1), .second] [(.int (1 : Int32))]))
          exact Go.retV X_325 hx hlk hret rfl (Or.inl ⟨rfl, Or.inr (Or.inl rfl), _, rfl⟩) (hb hby at_285) (by decide) (by decide) (by rw [e_325]; exact ⟨rfl, N_325⟩)
        · skip
          refine Go.step (fun _ k => XS.ifNo X_325.here hx rfl (hb hby at_221) rfl ((if0 _ _).trans (flt (fun q => w2 ((lw_lt _ _).mp q))).1) k) ?_
          show Go p e below _ (T_325.setTop (mkF m 224 #[vJ p0, .second, vJ p1, .second, vJ p2, .second, vI p3, vI p4, vR b262, vI fr, vI tt, vR b281, vJ (rdF (sel v1_263 v1_266 v1_269 v1_272 v1_275 v1_278) tt 6 fr (0 : Int64)), .second, vJ (tm v1_263 (0 : Int32) fr tt), .second, vJ (tm v1_266 (1 : Int32) fr tt), .second, vJ (tm v1_269 (2 : Int32) fr tt), .second, vJ (tm v1_272 (3 : Int32) fr tt), .second, vJ (tm v1_275 (4 : Int32) fr tt), .second, vJ (tm v1_278 (5 : Int32) fr tt), .second, vU, vU] []))
          refine Go.step (fun _ k => XS.lload X_325.here hx rfl (hb hby at_224) rfl  k) ?_
          refine Go.step (fun _ k => XS.lconst X_325.here hx rfl (hb hby at_226) k) ?_
          show Go p e below _ (T_325.setTop (mkF m 227 #[vJ p0, .second, vJ p1, .second, vJ p2, .second, vI p3, vI p4, vR b262, vI fr, vI tt, vR b281, vJ (rdF (sel v1_263 v1_266 v1_269 v1_272 v1_275 v1_278) tt 6 fr (0 : Int64)), .second, vJ (tm v1_263 (0 : Int32) fr tt), .second, vJ (tm v1_266 (1 : Int32) fr tt), .second, vJ (tm v1_269 (2 : Int32) fr tt), .second, vJ (tm v1_272 (3 : Int32) fr tt), .second, vJ (tm v1_275 (4 : Int32) fr tt), .second, vJ (tm v1_278 (5 : Int32) fr tt), .second, vU, vU] [(.long (0 : Int64)), (.long (tm v1_272 (3 : Int32) fr tt))]))
          refine Go.step (fun _ k => XS.lcmp X_325.here hx rfl (hb hby at_227) rfl k) ?_
          show Go p e below _ (T_325.setTop (mkF m 228 #[vJ p0, .second, vJ p1, .second, vJ p2, .second, vI p3, vI p4, vR b262, vI fr, vI tt, vR b281, vJ (rdF (sel v1_263 v1_266 v1_269 v1_272 v1_275 v1_278) tt 6 fr (0 : Int64)), .second, vJ (tm v1_263 (0 : Int32) fr tt), .second, vJ (tm v1_266 (1 : Int32) fr tt), .second, vJ (tm v1_269 (2 : Int32) fr tt), .second, vJ (tm v1_272 (3 : Int32) fr tt), .second, vJ (tm v1_275 (4 : Int32) fr tt), .second, vJ (tm v1_278 (5 : Int32) fr tt), .second, vU, vU] [(.int (lcmpW (tm v1_272 (3 : Int32) fr tt) (0 : Int64)))]))
          by_cases w3 : (tm v1_272 (3 : Int32) fr tt) < (0 : Int64)
          · skip
            refine Go.step (fun _ k => XS.ifYes X_325.here hx rfl (pc0 := 228) (pc' := 245) rfl (hb hby at_228) rfl ((if0 _ _).trans (tlt ((lw_lt _ _).mpr w3)).1) (by decide) (by decide) k) ?_
            show Go p e below _ (T_325.setTop (mkF m 245 #[vJ p0, .second, vJ p1, .second, vJ p2, .second, vI p3, vI p4, vR b262, vI fr, vI tt, vR b281, vJ (rdF (sel v1_263 v1_266 v1_269 v1_272 v1_275 v1_278) tt 6 fr (0 : Int64)), .second, vJ (tm v1_263 (0 : Int32) fr tt), .second, vJ (tm v1_266 (1 : Int32) fr tt), .second, vJ (tm v1_269 (2 : Int32) fr tt), .second, vJ (tm v1_272 (3 : Int32) fr tt), .second, vJ (tm v1_275 (4 : Int32) fr tt), .second, vJ (tm v1_278 (5 : Int32) fr tt), .second, vU, vU] []))
            refine Go.step (fun _ k => X_325.ldc2Long hx hown (mvT hZ (wd_93 hw)) (g := (mkF m 245 #[vJ p0, .second, vJ p1, .second, vJ p2, .second, vI p3, vI p4, vR b262, vI fr, vI tt, vR b281, vJ (rdF (sel v1_263 v1_266 v1_269 v1_272 v1_275 v1_278) tt 6 fr (0 : Int64)), .second, vJ (tm v1_263 (0 : Int32) fr tt), .second, vJ (tm v1_266 (1 : Int32) fr tt), .second, vJ (tm v1_269 (2 : Int32) fr tt), .second, vJ (tm v1_272 (3 : Int32) fr tt), .second, vJ (tm v1_275 (4 : Int32) fr tt), .second, vJ (tm v1_278 (5 : Int32) fr tt), .second, vU, vU] [])) rfl (hb hby at_245) _ k) ?_
            show Go p e below _ (T_325.setTop (mkF m 248 #[vJ p0, .second, vJ p1, .second, vJ p2, .second, vI p3, vI p4, vR b262, vI fr, vI tt, vR b281, vJ (rdF (sel v1_263 v1_266 v1_269 v1_272 v1_275 v1_278) tt 6 fr (0 : Int64)), .second, vJ (tm v1_263 (0 : Int32) fr tt), .second, vJ (tm v1_266 (1 : Int32) fr tt), .second, vJ (tm v1_269 (2 : Int32) fr tt), .second, vJ (tm v1_272 (3 : Int32) fr tt), .second, vJ (tm v1_275 (4 : Int32) fr tt), .second, vJ (tm v1_278 (5 : Int32) fr tt), .second, vU, vU] [(.long (-1 : Int64))]))
            refine Go.step (fun _ k => XS.lstore X_325.here hx rfl (hb hby at_248) rfl (l' := #[vJ p0, .second, vJ p1, .second, vJ p2, .second, vI p3, vI p4, vR b262, vI fr, vI tt, vR b281, vJ (rdF (sel v1_263 v1_266 v1_269 v1_272 v1_275 v1_278) tt 6 fr (0 : Int64)), .second, vJ (tm v1_263 (0 : Int32) fr tt), .second, vJ (tm v1_266 (1 : Int32) fr tt), .second, vJ (tm v1_269 (2 : Int32) fr tt), .second, vJ (tm v1_272 (3 : Int32) fr tt), .second, vJ (tm v1_275 (4 : Int32) fr tt), .second, vJ (tm v1_278 (5 : Int32) fr tt), .second, vJ (-1), .second]) rfl k) ?_
            show Go p e below _ (T_325.setTop (mkF m 250 #[vJ p0, .second, vJ p1, .second, vJ p2, .second, vI p3, vI p4, vR b262, vI fr, vI tt, vR b281, vJ (rdF (sel v1_263 v1_266 v1_269 v1_272 v1_275 v1_278) tt 6 fr (0 : Int64)), .second, vJ (tm v1_263 (0 : Int32) fr tt), .second, vJ (tm v1_266 (1 : Int32) fr tt), .second, vJ (tm v1_269 (2 : Int32) fr tt), .second, vJ (tm v1_272 (3 : Int32) fr tt), .second, vJ (tm v1_275 (4 : Int32) fr tt), .second, vJ (tm v1_278 (5 : Int32) fr tt), .second, vJ (-1), .second] []))
            refine Go.step (fun _ k => XS.goto X_325.here hx rfl (pc0 := 250) (pc' := 272) rfl (hb hby at_250) (by decide) (by decide) k) ?_
            show Go p e below _ (T_325.setTop (mkF m 272 #[vJ p0, .second, vJ p1, .second, vJ p2, .second, vI p3, vI p4, vR b262, vI fr, vI tt, vR b281, vJ (rdF (sel v1_263 v1_266 v1_269 v1_272 v1_275 v1_278) tt 6 fr (0 : Int64)), .second, vJ (tm v1_263 (0 : Int32) fr tt), .second, vJ (tm v1_266 (1 : Int32) fr tt), .second, vJ (tm v1_269 (2 : Int32) fr tt), .second, vJ (tm v1_272 (3 : Int32) fr tt), .second, vJ (tm v1_275 (4 : Int32) fr tt), .second, vJ (tm v1_278 (5 : Int32) fr tt), .second, vJ (-1), .second] []))
            refine Go.step (fun _ k => XS.lload X_325.here hx rfl (hb hby at_272) rfl  k) ?_
            refine Go.step (fun _ k => XS.lload X_325.here hx rfl (hb hby at_274) rfl  k) ?_
            show Go p e below _ (T_325.setTop (mkF m 276 #[vJ p0, .second, vJ p1, .second, vJ p2, .second, vI p3, vI p4, vR b262, vI fr, vI tt, vR b281, vJ (rdF (sel v1_263 v1_266 v1_269 v1_272 v1_275 v1_278) tt 6 fr (0 : Int64)), .second, vJ (tm v1_263 (0 : Int32) fr tt), .second, vJ (tm v1_266 (1 : Int32) fr tt), .second, vJ (tm v1_269 (2 : Int32) fr tt), .second, vJ (tm v1_272 (3 : Int32) fr tt), .second, vJ (tm v1_275 (4 : Int32) fr tt), .second, vJ (tm v1_278 (5 : Int32) fr tt), .second, vJ (-1), .second] [(.long (-1 : Int64)), (.long (rdF (sel v1_263 v1_266 v1_269 v1_272 v1_275 v1_278) tt 6 fr (0 : Int64)))]))
            refine Go.step (fun _ k => XS.lcmp X_325.here hx rfl (hb hby at_276) rfl k) ?_
            show Go p e below _ (T_325.setTop (mkF m 277 #[vJ p0, .second, vJ p1, .second, vJ p2, .second, vI p3, vI p4, vR b262, vI fr, vI tt, vR b281, vJ (rdF (sel v1_263 v1_266 v1_269 v1_272 v1_275 v1_278) tt 6 fr (0 : Int64)), .second, vJ (tm v1_263 (0 : Int32) fr tt), .second, vJ (tm v1_266 (1 : Int32) fr tt), .second, vJ (tm v1_269 (2 : Int32) fr tt), .second, vJ (tm v1_272 (3 : Int32) fr tt), .second, vJ (tm v1_275 (4 : Int32) fr tt), .second, vJ (tm v1_278 (5 : Int32) fr tt), .second, vJ (-1), .second] [(.int (lcmpW (rdF (sel v1_263 v1_266 v1_269 v1_272 v1_275 v1_278) tt 6 fr (0 : Int64)) (-1 : Int64)))]))
            refine Go.step (fun _ k => XS.ifNo X_325.here hx rfl (hb hby at_277) rfl ((if0 _ _).trans (teq ((lw_eq _ _).mpr ((math3 hh0 hh1 hh2 hh3 hh4 hh5 h_ft w0 w1 w2 w3) : (rdF (sel v1_263 v1_266 v1_269 v1_272 v1_275 v1_278) tt 6 fr (0 : Int64)) = (-1 : Int64)))).2) k) ?_
            show Go p e below _ (T_325.setTop (mkF m 280 #[vJ p0, .second, vJ p1, .second, vJ p2, .second, vI p3, vI p4, vR b262, vI fr, vI tt, vR b281, vJ (rdF (sel v1_263 v1_266 v1_269 v1_272 v1_275 v1_278) tt 6 fr (0 : Int64)), .second, vJ (tm v1_263 (0 : Int32) fr tt), .second, vJ (tm v1_266 (1 : Int32) fr tt), .second, vJ (tm v1_269 (2 : Int32) fr tt), .second, vJ (tm v1_272 (3 : Int32) fr tt), .second, vJ (tm v1_275 (4 : Int32) fr tt), .second, vJ (tm v1_278 (5 : Int32) fr tt), .second, vJ (-1), .second] []))
            refine Go.step (fun _ k => XS.iconst X_325.here hx rfl (hb hby at_280) k) ?_
            show Go p e below _ (T_325.setTop (mkF m 281 #[vJ p0, .second, vJ p1, .second, vJ p2, .second, vI p3, vI p4, vR b262, vI fr, vI tt, vR b281, vJ (rdF (sel v1_263 v1_266 v1_269 v1_272 v1_275 v1_278) tt 6 fr (0 : Int64)), .second, vJ (tm v1_263 (0 : Int32) fr tt), .second, vJ (tm v1_266 (1 : Int32) fr tt), .second, vJ (tm v1_269 (2 : Int32) fr tt), .second, vJ (tm v1_272 (3 : Int32) fr tt), .second, vJ (tm v1_275 (4 : Int32) fr tt), .second, vJ (tm v1_278 (5 : Int32) fr tt), .second, vJ (-1), .second] [(.int (1 : Int32))]))
            refine Go.step (fun _ k => XS.goto X_325.here hx rfl (pc0 := 281) (pc' := 285) rfl (hb hby at_281) (by decide) (by decide) k) ?_
            show Go p e below _ (T_325.setTop (mkF m 285 #[vJ p0, .second, vJ p1, .second, vJ p2, .second, vI p3, vI p4, vR b262, vI fr, vI tt, vR b281, vJ (rdF (sel v1_263 v1_266 v1_269 v1_272 v1_275 v1_278) tt 6 fr (0 : Int64)), .second, vJ (tm v1_263 (0 : Int32) fr tt), .second, vJ (tm v1_266 (1 : Int32) fr tt), .second, vJ (tm v1_269 (2 : Int32) fr tt), .second, vJ (tm v1_272 (3 : Int32) fr tt), .second, vJ (tm v1_275 (4 : Int32) fr tt), .second, vJ (tm v1_278 (5 : Int32) fr tt), .second, vJ (-1), .second] [(.int (1 : Int32))]))
            exact Go.retV X_325 hx hlk hret rfl (Or.inl ⟨rfl, Or.inr (Or.inl rfl), _, rfl⟩) (hb hby at_285) (by decide) (by decide) (by rw [e_325]; exact ⟨rfl, N_325⟩)
          · skip
            refine Go.step (fun _ k => XS.ifNo X_325.here hx rfl (hb hby at_228) rfl ((if0 _ _).trans (flt (fun q => w3 ((lw_lt _ _).mp q))).1) k) ?_
            show Go p e below _ (T_325.setTop (mkF m 231 #[vJ p0, .second, vJ p1, .second, vJ p2, .second, vI p3, vI p4, vR b262, vI fr, vI tt, vR b281, vJ (rdF (sel v1_263 v1_266 v1_269 v1_272 v1_275 v1_278) tt 6 fr (0 : Int64)), .second, vJ (tm v1_263 (0 : Int32) fr tt), .second, vJ (tm v1_266 (1 : Int32) fr tt), .second, vJ (tm v1_269 (2 : Int32) fr tt), .second, vJ (tm v1_272 (3 : Int32) fr tt), .second, vJ (tm v1_275 (4 : Int32) fr tt), .second, vJ (tm v1_278 (5 : Int32) fr tt), .second, vU, vU] []))
            refine Go.step (fun _ k => XS.lload X_325.here hx rfl (hb hby at_231) rfl  k) ?_
            refine Go.step (fun _ k => XS.lconst X_325.here hx rfl (hb hby at_233) k) ?_
            show Go p e below _ (T_325.setTop (mkF m 234 #[vJ p0, .second, vJ p1, .second, vJ p2, .second, vI p3, vI p4, vR b262, vI fr, vI tt, vR b281, vJ (rdF (sel v1_263 v1_266 v1_269 v1_272 v1_275 v1_278) tt 6 fr (0 : Int64)), .second, vJ (tm v1_263 (0 : Int32) fr tt), .second, vJ (tm v1_266 (1 : Int32) fr tt), .second, vJ (tm v1_269 (2 : Int32) fr tt), .second, vJ (tm v1_272 (3 : Int32) fr tt), .second, vJ (tm v1_275 (4 : Int32) fr tt), .second, vJ (tm v1_278 (5 : Int32) fr tt), .second, vU, vU] [(.long (0 : Int64)), (.long (tm v1_275 (4 : Int32) fr tt))]))
            refine Go.step (fun _ k => XS.lcmp X_325.here hx rfl (hb hby at_234) rfl k) ?_
            show Go p e below _ (T_325.setTop (mkF m 235 #[vJ p0, .second, vJ p1, .second, vJ p2, .second, vI p3, vI p4, vR b262, vI fr, vI tt, vR b281, vJ (rdF (sel v1_263 v1_266 v1_269 v1_272 v1_275 v1_278) tt 6 fr (0 : Int64)), .second, vJ (tm v1_263 (0 : Int32) fr tt), .second, vJ (tm v1_266 (1 : Int32) fr tt), .second, vJ (tm v1_269 (2 : Int32) fr tt), .second, vJ (tm v1_272 (3 : Int32) fr tt), .second, vJ (tm v1_275 (4 : Int32) fr tt), .second, vJ (tm v1_278 (5 : Int32) fr tt), .second, vU, vU] [(.int (lcmpW (tm v1_275 (4 : Int32) fr tt) (0 : Int64)))]))
            by_cases w4 : (tm v1_275 (4 : Int32) fr tt) < (0 : Int64)
            · skip
              refine Go.step (fun _ k => XS.ifYes X_325.here hx rfl (pc0 := 235) (pc' := 245) rfl (hb hby at_235) rfl ((if0 _ _).trans (tlt ((lw_lt _ _).mpr w4)).1) (by decide) (by decide) k) ?_
              show Go p e below _ (T_325.setTop (mkF m 245 #[vJ p0, .second, vJ p1, .second, vJ p2, .second, vI p3, vI p4, vR b262, vI fr, vI tt, vR b281, vJ (rdF (sel v1_263 v1_266 v1_269 v1_272 v1_275 v1_278) tt 6 fr (0 : Int64)), .second, vJ (tm v1_263 (0 : Int32) fr tt), .second, vJ (tm v1_266 (1 : Int32) fr tt), .second, vJ (tm v1_269 (2 : Int32) fr tt), .second, vJ (tm v1_272 (3 : Int32) fr tt), .second, vJ (tm v1_275 (4 : Int32) fr tt), .second, vJ (tm v1_278 (5 : Int32) fr tt), .second, vU, vU] []))
              refine Go.step (fun _ k => X_325.ldc2Long hx hown (mvT hZ (wd_93 hw)) (g := (mkF m 245 #[vJ p0, .second, vJ p1, .second, vJ p2, .second, vI p3, vI p4, vR b262, vI fr, vI tt, vR b281, vJ (rdF (sel v1_263 v1_266 v1_269 v1_272 v1_275 v1_278) tt 6 fr (0 : Int64)), .second, vJ (tm v1_263 (0 : Int32) fr tt), .second, vJ (tm v1_266 (1 : Int32) fr tt), .second, vJ (tm v1_269 (2 : Int32) fr tt), .second, vJ (tm v1_272 (3 : Int32) fr tt), .second, vJ (tm v1_275 (4 : Int32) fr tt), .second, vJ (tm v1_278 (5 : Int32) fr tt), .second, vU, vU] [])) rfl (hb hby at_245) _ k) ?_
              show Go p e below _ (T_325.setTop (mkF m 248 #[vJ p0, .second, vJ p1, .second, vJ p2, .second, vI p3, vI p4, vR b262, vI fr, vI tt, vR b281, vJ (rdF (sel v1_263 v1_266 v1_269 v1_272 v1_275 v1_278) tt 6 fr (0 : Int64)), .second, vJ (tm v1_263 (0 : Int32) fr tt), .second, vJ (tm v1_266 (1 : Int32) fr tt), .second, vJ (tm v1_269 (2 : Int32) fr tt), .second, vJ (tm v1_272 (3 : Int32) fr tt), .second, vJ (tm v1_275 (4 : Int32) fr tt), .second, vJ (tm v1_278 (5 : Int32) fr tt), .second, vU, vU] [(.long (-1 : Int64))]))
              refine Go.step (fun _ k => XS.lstore X_325.here hx rfl (hb hby at_248) rfl (l' := #[vJ p0, .second, vJ p1, .second, vJ p2, .second, vI p3, vI p4, vR b262, vI fr, vI tt, vR b281, vJ (rdF (sel v1_263 v1_266 v1_269 v1_272 v1_275 v1_278) tt 6 fr (0 : Int64)), .second, vJ (tm v1_263 (0 : Int32) fr tt), .second, vJ (tm v1_266 (1 : Int32) fr tt), .second, vJ (tm v1_269 (2 : Int32) fr tt), .second, vJ (tm v1_272 (3 : Int32) fr tt), .second, vJ (tm v1_275 (4 : Int32) fr tt), .second, vJ (tm v1_278 (5 : Int32) fr tt), .second, vJ (-1), .second]) rfl k) ?_
              show Go p e below _ (T_325.setTop (mkF m 250 #[vJ p0, .second, vJ p1, .second, vJ p2, .second, vI p3, vI p4, vR b262, vI fr, vI tt, vR b281, vJ (rdF (sel v1_263 v1_266 v1_269 v1_272 v1_275 v1_278) tt 6 fr (0 : Int64)), .second, vJ (tm v1_263 (0 : Int32) fr tt), .second, vJ (tm v1_266 (1 : Int32) fr tt), .second, vJ (tm v1_269 (2 : Int32) fr tt), .second, vJ (tm v1_272 (3 : Int32) fr tt), .second, vJ (tm v1_275 (4 : Int32) fr tt), .second, vJ (tm v1_278 (5 : Int32) fr tt), .second, vJ (-1), .second] []))
              refine Go.step (fun _ k => XS.goto X_325.here hx rfl (pc0 := 250) (pc' := 272) rfl (hb hby at_250) (by decide) (by decide) k) ?_
              show Go p e below _ (T_325.setTop (mkF m 272 #[vJ p0, .second, vJ p1, .second, vJ p2, .second, vI p3, vI p4, vR b262, vI fr, vI tt, vR b281, vJ (rdF (sel v1_263 v1_266 v1_269 v1_272 v1_275 v1_278) tt 6 fr (0 : Int64)), .second, vJ (tm v1_263 (0 : Int32) fr tt), .second, vJ (tm v1_266 (1 : Int32) fr tt), .second, vJ (tm v1_269 (2 : Int32) fr tt), .second, vJ (tm v1_272 (3 : Int32) fr tt), .second, vJ (tm v1_275 (4 : Int32) fr tt), .second, vJ (tm v1_278 (5 : Int32) fr tt), .second, vJ (-1), .second] []))
              refine Go.step (fun _ k => XS.lload X_325.here hx rfl (hb hby at_272) rfl  k) ?_
              refine Go.step (fun _ k => XS.lload X_325.here hx rfl (hb hby at_274) rfl  k) ?_
              show Go p e below _ (T_325.setTop (mkF m 276 #[vJ p0, .second, vJ p1, .second, vJ p2, .second, vI p3, vI p4, vR b262, vI fr, vI tt, vR b281, vJ (rdF (sel v1_263 v1_266 v1_269 v1_272 v1_275 v1_278) tt 6 fr (0 : Int64)), .second, vJ (tm v1_263 (0 : Int32) fr tt), .second, vJ (tm v1_266 (1 : Int32) fr tt), .second, vJ (tm v1_269 (2 : Int32) fr tt), .second, vJ (tm v1_272 (3 : Int32) fr tt), .second, vJ (tm v1_275 (4 : Int32) fr tt), .second, vJ (tm v1_278 (5 : Int32) fr tt), .second, vJ (-1), .second] [(.long (-1 : Int64)), (.long (rdF (sel v1_263 v1_266 v1_269 v1_272 v1_275 v1_278) tt 6 fr (0 : Int64)))]))
              refine Go.step (fun _ k => XS.lcmp X_325.here hx rfl (hb hby at_276) rfl k) ?_
              show Go p e below _ (T_325.setTop (mkF m 277 #[vJ p0, .second, vJ p1, .second, vJ p2, .second, vI p3, vI p4, vR b262, vI fr, vI tt, vR b281, vJ (rdF (sel v1_263 v1_266 v1_269 v1_272 v1_275 v1_278) tt 6 fr (0 : Int64)), .second, vJ (tm v1_263 (0 : Int32) fr tt), .second, vJ (tm v1_266 (1 : Int32) fr tt), .second, vJ (tm v1_269 (2 : Int32) fr tt), .second, vJ (tm v1_272 (3 : Int32) fr tt), .second, vJ (tm v1_275 (4 : Int32) fr tt), .second, vJ (tm v1_278 (5 : Int32) fr tt), .second, vJ (-1), .second] [(.int (lcmpW (rdF (sel v1_263 v1_266 v1_269 v1_272 v1_275 v1_278) tt 6 fr (0 : Int64)) (-1 : Int64)))]))
              refine Go.step (fun _ k => XS.ifNo X_325.here hx rfl (hb hby at_277) rfl ((if0 _ _).trans (teq ((lw_eq _ _).mpr ((math4 hh0 hh1 hh2 hh3 hh4 hh5 h_ft w0 w1 w2 w3 w4) : (rdF (sel v1_263 v1_266 v1_269 v1_272 v1_275 v1_278) tt 6 fr (0 : Int64)) = (-1 : Int64)))).2) k) ?_
              show Go p e below _ (T_325.setTop (mkF m 280 #[vJ p0, .second, vJ p1, .second, vJ p2, .second, vI p3, vI p4, vR b262, vI fr, vI tt, vR b281, vJ (rdF (sel v1_263 v1_266 v1_269 v1_272 v1_275 v1_278) tt 6 fr (0 : Int64)), .second, vJ (tm v1_263 (0 : Int32) fr tt), .second, vJ (tm v1_266 (1 : Int32) fr tt), .second, vJ (tm v1_269 (2 : Int32) fr tt), .second, vJ (tm v1_272 (3 : Int32) fr tt), .second, vJ (tm v1_275 (4 : Int32) fr tt), .second, vJ (tm v1_278 (5 : Int32) fr tt), .second, vJ (-1), .second] []))
              refine Go.step (fun _ k => XS.iconst X_325.here hx rfl (hb hby at_280) k) ?_
              show Go p e below _ (T_325.setTop (mkF m 281 #[vJ p0, .second, vJ p1, .second, vJ p2, .second, vI p3, vI p4, vR b262, vI fr, vI tt, vR b281, vJ (rdF (sel v1_263 v1_266 v1_269 v1_272 v1_275 v1_278) tt 6 fr (0 : Int64)), .second, vJ (tm v1_263 (0 : Int32) fr tt), .second, vJ (tm v1_266 (1 : Int32) fr tt), .second, vJ (tm v1_269 (2 : Int32) fr tt), .second, vJ (tm v1_272 (3 : Int32) fr tt), .second, vJ (tm v1_275 (4 : Int32) fr tt), .second, vJ (tm v1_278 (5 : Int32) fr tt), .second, vJ (-1), .second] [(.int (1 : Int32))]))
              refine Go.step (fun _ k => XS.goto X_325.here hx rfl (pc0 := 281) (pc' := 285) rfl (hb hby at_281) (by decide) (by decide) k) ?_
              show Go p e below _ (T_325.setTop (mkF m 285 #[vJ p0, .second, vJ p1, .second, vJ p2, .second, vI p3, vI p4, vR b262, vI fr, vI tt, vR b281, vJ (rdF (sel v1_263 v1_266 v1_269 v1_272 v1_275 v1_278) tt 6 fr (0 : Int64)), .second, vJ (tm v1_263 (0 : Int32) fr tt), .second, vJ (tm v1_266 (1 : Int32) fr tt), .second, vJ (tm v1_269 (2 : Int32) fr tt), .second, vJ (tm v1_272 (3 : Int32) fr tt), .second, vJ (tm v1_275 (4 : Int32) fr tt), .second, vJ (tm v1_278 (5 : Int32) fr tt), .second, vJ (-1), .second] [(.int (1 : Int32))]))
              exact Go.retV X_325 hx hlk hret rfl (Or.inl ⟨rfl, Or.inr (Or.inl rfl), _, rfl⟩) (hb hby at_285) (by decide) (by decide) (by rw [e_325]; exact ⟨rfl, N_325⟩)
            · skip
              refine Go.step (fun _ k => XS.ifNo X_325.here hx rfl (hb hby at_235) rfl ((if0 _ _).trans (flt (fun q => w4 ((lw_lt _ _).mp q))).1) k) ?_
              show Go p e below _ (T_325.setTop (mkF m 238 #[vJ p0, .second, vJ p1, .second, vJ p2, .second, vI p3, vI p4, vR b262, vI fr, vI tt, vR b281, vJ (rdF (sel v1_263 v1_266 v1_269 v1_272 v1_275 v1_278) tt 6 fr (0 : Int64)), .second, vJ (tm v1_263 (0 : Int32) fr tt), .second, vJ (tm v1_266 (1 : Int32) fr tt), .second, vJ (tm v1_269 (2 : Int32) fr tt), .second, vJ (tm v1_272 (3 : Int32) fr tt), .second, vJ (tm v1_275 (4 : Int32) fr tt), .second, vJ (tm v1_278 (5 : Int32) fr tt), .second, vU, vU] []))
              refine Go.step (fun _ k => XS.lload X_325.here hx rfl (hb hby at_238) rfl  k) ?_
              refine Go.step (fun _ k => XS.lconst X_325.here hx rfl (hb hby at_240) k) ?_
              show Go p e below _ (T_325.setTop (mkF m 241 #[vJ p0, .second, vJ p1, .second, vJ p2, .second, vI p3, vI p4, vR b262, vI fr, vI tt, vR b281, vJ (rdF (sel v1_263 v1_266 v1_269 v1_272 v1_275 v1_278) tt 6 fr (0 : Int64)), .second, vJ (tm v1_263 (0 : Int32) fr tt), .second, vJ (tm v1_266 (1 : Int32) fr tt), .second, vJ (tm v1_269 (2 : Int32) fr tt), .second, vJ (tm v1_272 (3 : Int32) fr tt), .second, vJ (tm v1_275 (4 : Int32) fr tt), .second, vJ (tm v1_278 (5 : Int32) fr tt), .second, vU, vU] [(.long (0 : Int64)), (.long (tm v1_278 (5 : Int32) fr tt))]))
              refine Go.step (fun _ k => XS.lcmp X_325.here hx rfl (hb hby at_241) rfl k) ?_
              show Go p e below _ (T_325.setTop (mkF m 242 #[vJ p0, .second, vJ p1, .second, vJ p2, .second, vI p3, vI p4, vR b262, vI fr, vI tt, vR b281, vJ (rdF (sel v1_263 v1_266 v1_269 v1_272 v1_275 v1_278) tt 6 fr (0 : Int64)), .second, vJ (tm v1_263 (0 : Int32) fr tt), .second, vJ (tm v1_266 (1 : Int32) fr tt), .second, vJ (tm v1_269 (2 : Int32) fr tt), .second, vJ (tm v1_272 (3 : Int32) fr tt), .second, vJ (tm v1_275 (4 : Int32) fr tt), .second, vJ (tm v1_278 (5 : Int32) fr tt), .second, vU, vU] [(.int (lcmpW (tm v1_278 (5 : Int32) fr tt) (0 : Int64)))]))
              by_cases w5 : (tm v1_278 (5 : Int32) fr tt) < (0 : Int64)
              · skip
                refine Go.step (fun _ k => XS.ifNo X_325.here hx rfl (hb hby at_242) rfl ((if0 _ _).trans (tlt ((lw_lt _ _).mpr w5)).2.1) k) ?_
                show Go p e below _ (T_325.setTop (mkF m 245 #[vJ p0, .second, vJ p1, .second, vJ p2, .second, vI p3, vI p4, vR b262, vI fr, vI tt, vR b281, vJ (rdF (sel v1_263 v1_266 v1_269 v1_272 v1_275 v1_278) tt 6 fr (0 : Int64)), .second, vJ (tm v1_263 (0 : Int32) fr tt), .second, vJ (tm v1_266 (1 : Int32) fr tt), .second, vJ (tm v1_269 (2 : Int32) fr tt), .second, vJ (tm v1_272 (3 : Int32) fr tt), .second, vJ (tm v1_275 (4 : Int32) fr tt), .second, vJ (tm v1_278 (5 : Int32) fr tt), .second, vU, vU] []))
                refine Go.step (fun _ k => X_325.ldc2Long hx hown (mvT hZ (wd_93 hw)) (g := (mkF m 245 #[vJ p0, .second, vJ p1, .second, vJ p2, .second, vI p3, vI p4, vR b262, vI fr, vI tt, vR b281, vJ (rdF (sel v1_263 v1_266 v1_269 v1_272 v1_275 v1_278) tt 6 fr (0 : Int64)), .second, vJ (tm v1_263 (0 : Int32) fr tt), .second, vJ (tm v1_266 (1 : Int32) fr tt), .second, vJ (tm v1_269 (2 : Int32) fr tt), .second, vJ (tm v1_272 (3 : Int32) fr tt), .second, vJ (tm v1_275 (4 : Int32) fr tt), .second, vJ (tm v1_278 (5 : Int32) fr tt), .second, vU, vU] [])) rfl (hb hby at_245) _ k) ?_
                show Go p e below _ (T_325.setTop (mkF m 248 #[vJ p0, .second, vJ p1, .second, vJ p2, .second, vI p3, vI p4, vR b262, vI fr, vI tt, vR b281, vJ (rdF (sel v1_263 v1_266 v1_269 v1_272 v1_275 v1_278) tt 6 fr (0 : Int64)), .second, vJ (tm v1_263 (0 : Int32) fr tt), .second, vJ (tm v1_266 (1 : Int32) fr tt), .second, vJ (tm v1_269 (2 : Int32) fr tt), .second, vJ (tm v1_272 (3 : Int32) fr tt), .second, vJ (tm v1_275 (4 : Int32) fr tt), .second, vJ (tm v1_278 (5 : Int32) fr tt), .second, vU, vU] [(.long (-1 : Int64))]))
                refine Go.step (fun _ k => XS.lstore X_325.here hx rfl (hb hby at_248) rfl (l' := #[vJ p0, .second, vJ p1, .second, vJ p2, .second, vI p3, vI p4, vR b262, vI fr, vI tt, vR b281, vJ (rdF (sel v1_263 v1_266 v1_269 v1_272 v1_275 v1_278) tt 6 fr (0 : Int64)), .second, vJ (tm v1_263 (0 : Int32) fr tt), .second, vJ (tm v1_266 (1 : Int32) fr tt), .second, vJ (tm v1_269 (2 : Int32) fr tt), .second, vJ (tm v1_272 (3 : Int32) fr tt), .second, vJ (tm v1_275 (4 : Int32) fr tt), .second, vJ (tm v1_278 (5 : Int32) fr tt), .second, vJ (-1), .second]) rfl k) ?_
                show Go p e below _ (T_325.setTop (mkF m 250 #[vJ p0, .second, vJ p1, .second, vJ p2, .second, vI p3, vI p4, vR b262, vI fr, vI tt, vR b281, vJ (rdF (sel v1_263 v1_266 v1_269 v1_272 v1_275 v1_278) tt 6 fr (0 : Int64)), .second, vJ (tm v1_263 (0 : Int32) fr tt), .second, vJ (tm v1_266 (1 : Int32) fr tt), .second, vJ (tm v1_269 (2 : Int32) fr tt), .second, vJ (tm v1_272 (3 : Int32) fr tt), .second, vJ (tm v1_275 (4 : Int32) fr tt), .second, vJ (tm v1_278 (5 : Int32) fr tt), .second, vJ (-1), .second] []))
                refine Go.step (fun _ k => XS.goto X_325.here hx rfl (pc0 := 250) (pc' := 272) rfl (hb hby at_250) (by decide) (by decide) k) ?_
                show Go p e below _ (T_325.setTop (mkF m 272 #[vJ p0, .second, vJ p1, .second, vJ p2, .second, vI p3, vI p4, vR b262, vI fr, vI tt, vR b281, vJ (rdF (sel v1_263 v1_266 v1_269 v1_272 v1_275 v1_278) tt 6 fr (0 : Int64)), .second, vJ (tm v1_263 (0 : Int32) fr tt), .second, vJ (tm v1_266 (1 : Int32) fr tt), .second, vJ (tm v1_269 (2 : Int32) fr tt), .second, vJ (tm v1_272 (3 : Int32) fr tt), .second, vJ (tm v1_275 (4 : Int32) fr tt), .second, vJ (tm v1_278 (5 : Int32) fr tt), .second, vJ (-1), .second] []))
                refine Go.step (fun _ k => XS.lload X_325.here hx rfl (hb hby at_272) rfl  k) ?_
                refine Go.step (fun _ k => XS.lload X_325.here hx rfl (hb hby at_274) rfl  k) ?_
                show Go p e below _ (T_325.setTop (mkF m 276 #[vJ p0, .second, vJ p1, .second, vJ p2, .second, vI p3, vI p4, vR b262, vI fr, vI tt, vR b281, vJ (rdF (sel v1_263 v1_266 v1_269 v1_272 v1_275 v1_278) tt 6 fr (0 : Int64)), .second, vJ (tm v1_263 (0 : Int32) fr tt), .second, vJ (tm v1_266 (1 : Int32) fr tt), .second, vJ (tm v1_269 (2 : Int32) fr tt), .second, vJ (tm v1_272 (3 : Int32) fr tt), .second, vJ (tm v1_275 (4 : Int32) fr tt), .second, vJ (tm v1_278 (5 : Int32) fr tt), .second, vJ (-1), .second] [(.long (-1 : Int64)), (.long (rdF (sel v1_263 v1_266 v1_269 v1_272 v1_275 v1_278) tt 6 fr (0 : Int64)))]))
                refine Go.step (fun _ k => XS.lcmp X_325.here hx rfl (hb hby at_276) rfl k) ?_
                show Go p e below _ (T_325.setTop (mkF m 277 #[vJ p0, .second, vJ p1, .second, vJ p2, .second, vI p3, vI p4, vR b262, vI fr, vI tt, vR b281, vJ (rdF (sel v1_263 v1_266 v1_269 v1_272 v1_275 v1_278) tt 6 fr (0 : Int64)), .second, vJ (tm v1_263 (0 : Int32) fr tt), .second, vJ (tm v1_266 (1 : Int32) fr tt), .second, vJ (tm v1_269 (2 : Int32) fr tt), .second, vJ (tm v1_272 (3 : Int32) fr tt), .second, vJ (tm v1_275 (4 : Int32) fr tt), .second, vJ (tm v1_278 (5 : Int32) fr tt), .second, vJ (-1), .second] [(.int (lcmpW (rdF (sel v1_263 v1_266 v1_269 v1_272 v1_275 v1_278) tt 6 fr (0 : Int64)) (-1 : Int64)))]))
                refine Go.step (fun _ k => XS.ifNo X_325.here hx rfl (hb hby at_277) rfl ((if0 _ _).trans (teq ((lw_eq _ _).mpr ((math5 hh0 hh1 hh2 hh3 hh4 hh5 h_ft w0 w1 w2 w3 w4 w5) : (rdF (sel v1_263 v1_266 v1_269 v1_272 v1_275 v1_278) tt 6 fr (0 : Int64)) = (-1 : Int64)))).2) k) ?_
                show Go p e below _ (T_325.setTop (mkF m 280 #[vJ p0, .second, vJ p1, .second, vJ p2, .second, vI p3, vI p4, vR b262, vI fr, vI tt, vR b281, vJ (rdF (sel v1_263 v1_266 v1_269 v1_272 v1_275 v1_278) tt 6 fr (0 : Int64)), .second, vJ (tm v1_263 (0 : Int32) fr tt), .second, vJ (tm v1_266 (1 : Int32) fr tt), .second, vJ (tm v1_269 (2 : Int32) fr tt), .second, vJ (tm v1_272 (3 : Int32) fr tt), .second, vJ (tm v1_275 (4 : Int32) fr tt), .second, vJ (tm v1_278 (5 : Int32) fr tt), .second, vJ (-1), .second] []))
                refine Go.step (fun _ k => XS.iconst X_325.here hx rfl (hb hby at_280) k) ?_
                show Go p e below _ (T_325.setTop (mkF m 281 #[vJ p0, .second, vJ p1, .second, vJ p2, .second, vI p3, vI p4, vR b262, vI fr, vI tt, vR b281, vJ (rdF (sel v1_263 v1_266 v1_269 v1_272 v1_275 v1_278) tt 6 fr (0 : Int64)), .second, vJ (tm v1_263 (0 : Int32) fr tt), .second, vJ (tm v1_266 (1 : Int32) fr tt), .second, vJ (tm v1_269 (2 : Int32) fr tt), .second, vJ (tm v1_272 (3 : Int32) fr tt), .second, vJ (tm v1_275 (4 : Int32) fr tt), .second, vJ (tm v1_278 (5 : Int32) fr tt), .second, vJ (-1), .second] [(.int (1 : Int32))]))
                refine Go.step (fun _ k => XS.goto X_325.here hx rfl (pc0 := 281) (pc' := 285) rfl (hb hby at_281) (by decide) (by decide) k) ?_
                show Go p e below _ (T_325.setTop (mkF m 285 #[vJ p0, .second, vJ p1, .second, vJ p2, .second, vI p3, vI p4, vR b262, vI fr, vI tt, vR b281, vJ (rdF (sel v1_263 v1_266 v1_269 v1_272 v1_275 v1_278) tt 6 fr (0 : Int64)), .second, vJ (tm v1_263 (0 : Int32) fr tt), .second, vJ (tm v1_266 (1 : Int32) fr tt), .second, vJ (tm v1_269 (2 : Int32) fr tt), .second, vJ (tm v1_272 (3 : Int32) fr tt), .second, vJ (tm v1_275 (4 : Int32) fr tt), .second, vJ (tm v1_278 (5 : Int32) fr tt), .second, vJ (-1), .second] [(.int (1 : Int32))]))
                exact Go.retV X_325 hx hlk hret rfl (Or.inl ⟨rfl, Or.inr (Or.inl rfl), _, rfl⟩) (hb hby at_285) (by decide) (by decide) (by rw [e_325]; exact ⟨rfl, N_325⟩)
              · skip
                refine Go.step (fun _ k => XS.ifYes X_325.here hx rfl (pc0 := 242) (pc' := 253) rfl (hb hby at_242) rfl ((if0 _ _).trans (flt (fun q => w5 ((lw_lt _ _).mp q))).2.1) (by decide) (by decide) k) ?_
                show Go p e below _ (T_325.setTop (mkF m 253 #[vJ p0, .second, vJ p1, .second, vJ p2, .second, vI p3, vI p4, vR b262, vI fr, vI tt, vR b281, vJ (rdF (sel v1_263 v1_266 v1_269 v1_272 v1_275 v1_278) tt 6 fr (0 : Int64)), .second, vJ (tm v1_263 (0 : Int32) fr tt), .second, vJ (tm v1_266 (1 : Int32) fr tt), .second, vJ (tm v1_269 (2 : Int32) fr tt), .second, vJ (tm v1_272 (3 : Int32) fr tt), .second, vJ (tm v1_275 (4 : Int32) fr tt), .second, vJ (tm v1_278 (5 : Int32) fr tt), .second, vU, vU] []))
                refine Go.step (fun _ k => XS.lload X_325.here hx rfl (hb hby at_253) rfl  k) ?_
                refine Go.step (fun _ k => XS.lload X_325.here hx rfl (hb hby at_255) rfl  k) ?_
                show Go p e below _ (T_325.setTop (mkF m 257 #[vJ p0, .second, vJ p1, .second, vJ p2, .second, vI p3, vI p4, vR b262, vI fr, vI tt, vR b281, vJ (rdF (sel v1_263 v1_266 v1_269 v1_272 v1_275 v1_278) tt 6 fr (0 : Int64)), .second, vJ (tm v1_263 (0 : Int32) fr tt), .second, vJ (tm v1_266 (1 : Int32) fr tt), .second, vJ (tm v1_269 (2 : Int32) fr tt), .second, vJ (tm v1_272 (3 : Int32) fr tt), .second, vJ (tm v1_275 (4 : Int32) fr tt), .second, vJ (tm v1_278 (5 : Int32) fr tt), .second, vU, vU] [(.long (tm v1_266 (1 : Int32) fr tt)), (.long (tm v1_263 (0 : Int32) fr tt))]))
                refine Go.step (fun _ k => XS.ladd X_325.here hx rfl (hb hby at_257) rfl k) ?_
                show Go p e below _ (T_325.setTop (mkF m 258 #[vJ p0, .second, vJ p1, .second, vJ p2, .second, vI p3, vI p4, vR b262, vI fr, vI tt, vR b281, vJ (rdF (sel v1_263 v1_266 v1_269 v1_272 v1_275 v1_278) tt 6 fr (0 : Int64)), .second, vJ (tm v1_263 (0 : Int32) fr tt), .second, vJ (tm v1_266 (1 : Int32) fr tt), .second, vJ (tm v1_269 (2 : Int32) fr tt), .second, vJ (tm v1_272 (3 : Int32) fr tt), .second, vJ (tm v1_275 (4 : Int32) fr tt), .second, vJ (tm v1_278 (5 : Int32) fr tt), .second, vU, vU] [(.long ((tm v1_263 (0 : Int32) fr tt) + (tm v1_266 (1 : Int32) fr tt)))]))
                refine Go.step (fun _ k => XS.lload X_325.here hx rfl (hb hby at_258) rfl  k) ?_
                show Go p e below _ (T_325.setTop (mkF m 260 #[vJ p0, .second, vJ p1, .second, vJ p2, .second, vI p3, vI p4, vR b262, vI fr, vI tt, vR b281, vJ (rdF (sel v1_263 v1_266 v1_269 v1_272 v1_275 v1_278) tt 6 fr (0 : Int64)), .second, vJ (tm v1_263 (0 : Int32) fr tt), .second, vJ (tm v1_266 (1 : Int32) fr tt), .second, vJ (tm v1_269 (2 : Int32) fr tt), .second, vJ (tm v1_272 (3 : Int32) fr tt), .second, vJ (tm v1_275 (4 : Int32) fr tt), .second, vJ (tm v1_278 (5 : Int32) fr tt), .second, vU, vU] [(.long (tm v1_269 (2 : Int32) fr tt)), (.long ((tm v1_263 (0 : Int32) fr tt) + (tm v1_266 (1 : Int32) fr tt)))]))
                refine Go.step (fun _ k => XS.ladd X_325.here hx rfl (hb hby at_260) rfl k) ?_
                show Go p e below _ (T_325.setTop (mkF m 261 #[vJ p0, .second, vJ p1, .second, vJ p2, .second, vI p3, vI p4, vR b262, vI fr, vI tt, vR b281, vJ (rdF (sel v1_263 v1_266 v1_269 v1_272 v1_275 v1_278) tt 6 fr (0 : Int64)), .second, vJ (tm v1_263 (0 : Int32) fr tt), .second, vJ (tm v1_266 (1 : Int32) fr tt), .second, vJ (tm v1_269 (2 : Int32) fr tt), .second, vJ (tm v1_272 (3 : Int32) fr tt), .second, vJ (tm v1_275 (4 : Int32) fr tt), .second, vJ (tm v1_278 (5 : Int32) fr tt), .second, vU, vU] [(.long (((tm v1_263 (0 : Int32) fr tt) + (tm v1_266 (1 : Int32) fr tt)) + (tm v1_269 (2 : Int32) fr tt)))]))
                refine Go.step (fun _ k => XS.lload X_325.here hx rfl (hb hby at_261) rfl  k) ?_
                show Go p e below _ (T_325.setTop (mkF m 263 #[vJ p0, .second, vJ p1, .second, vJ p2, .second, vI p3, vI p4, vR b262, vI fr, vI tt, vR b281, vJ (rdF (sel v1_263 v1_266 v1_269 v1_272 v1_275 v1_278) tt 6 fr (0 : Int64)), .second, vJ (tm v1_263 (0 : Int32) fr tt), .second, vJ (tm v1_266 (1 : Int32) fr tt), .second, vJ (tm v1_269 (2 : Int32) fr tt), .second, vJ (tm v1_272 (3 : Int32) fr tt), .second, vJ (tm v1_275 (4 : Int32) fr tt), .second, vJ (tm v1_278 (5 : Int32) fr tt), .second, vU, vU] [(.long (tm v1_272 (3 : Int32) fr tt)), (.long (((tm v1_263 (0 : Int32) fr tt) + (tm v1_266 (1 : Int32) fr tt)) + (tm v1_269 (2 : Int32) fr tt)))]))
                refine Go.step (fun _ k => XS.ladd X_325.here hx rfl (hb hby at_263) rfl k) ?_
                show Go p e below _ (T_325.setTop (mkF m 264 #[vJ p0, .second, vJ p1, .second, vJ p2, .second, vI p3, vI p4, vR b262, vI fr, vI tt, vR b281, vJ (rdF (sel v1_263 v1_266 v1_269 v1_272 v1_275 v1_278) tt 6 fr (0 : Int64)), .second, vJ (tm v1_263 (0 : Int32) fr tt), .second, vJ (tm v1_266 (1 : Int32) fr tt), .second, vJ (tm v1_269 (2 : Int32) fr tt), .second, vJ (tm v1_272 (3 : Int32) fr tt), .second, vJ (tm v1_275 (4 : Int32) fr tt), .second, vJ (tm v1_278 (5 : Int32) fr tt), .second, vU, vU] [(.long ((((tm v1_263 (0 : Int32) fr tt) + (tm v1_266 (1 : Int32) fr tt)) + (tm v1_269 (2 : Int32) fr tt)) + (tm v1_272 (3 : Int32) fr tt)))]))
                refine Go.step (fun _ k => XS.lload X_325.here hx rfl (hb hby at_264) rfl  k) ?_
                show Go p e below _ (T_325.setTop (mkF m 266 #[vJ p0, .second, vJ p1, .second, vJ p2, .second, vI p3, vI p4, vR b262, vI fr, vI tt, vR b281, vJ (rdF (sel v1_263 v1_266 v1_269 v1_272 v1_275 v1_278) tt 6 fr (0 : Int64)), .second, vJ (tm v1_263 (0 : Int32) fr tt), .second, vJ (tm v1_266 (1 : Int32) fr tt), .second, vJ (tm v1_269 (2 : Int32) fr tt), .second, vJ (tm v1_272 (3 : Int32) fr tt), .second, vJ (tm v1_275 (4 : Int32) fr tt), .second, vJ (tm v1_278 (5 : Int32) fr tt), .second, vU, vU] [(.long (tm v1_275 (4 : Int32) fr tt)), (.long ((((tm v1_263 (0 : Int32) fr tt) + (tm v1_266 (1 : Int32) fr tt)) + (tm v1_269 (2 : Int32) fr tt)) + (tm v1_272 (3 : Int32) fr tt)))]))
                refine Go.step (fun _ k => XS.ladd X_325.here hx rfl (hb hby at_266) rfl k) ?_
                show Go p e below _ (T_325.setTop (mkF m 267 #[vJ p0, .second, vJ p1, .second, vJ p2, .second, vI p3, vI p4, vR b262, vI fr, vI tt, vR b281, vJ (rdF (sel v1_263 v1_266 v1_269 v1_272 v1_275 v1_278) tt 6 fr (0 : Int64)), .second, vJ (tm v1_263 (0 : Int32) fr tt), .second, vJ (tm v1_266 (1 : Int32) fr tt), .second, vJ (tm v1_269 (2 : Int32) fr tt), .second, vJ (tm v1_272 (3 : Int32) fr tt), .second, vJ (tm v1_275 (4 : Int32) fr tt), .second, vJ (tm v1_278 (5 : Int32) fr tt), .second, vU, vU] [(.long (((((tm v1_263 (0 : Int32) fr tt) + (tm v1_266 (1 : Int32) fr tt)) + (tm v1_269 (2 : Int32) fr tt)) + (tm v1_272 (3 : Int32) fr tt)) + (tm v1_275 (4 : Int32) fr tt)))]))
                refine Go.step (fun _ k => XS.lload X_325.here hx rfl (hb hby at_267) rfl  k) ?_
                show Go p e below _ (T_325.setTop (mkF m 269 #[vJ p0, .second, vJ p1, .second, vJ p2, .second, vI p3, vI p4, vR b262, vI fr, vI tt, vR b281, vJ (rdF (sel v1_263 v1_266 v1_269 v1_272 v1_275 v1_278) tt 6 fr (0 : Int64)), .second, vJ (tm v1_263 (0 : Int32) fr tt), .second, vJ (tm v1_266 (1 : Int32) fr tt), .second, vJ (tm v1_269 (2 : Int32) fr tt), .second, vJ (tm v1_272 (3 : Int32) fr tt), .second, vJ (tm v1_275 (4 : Int32) fr tt), .second, vJ (tm v1_278 (5 : Int32) fr tt), .second, vU, vU] [(.long (tm v1_278 (5 : Int32) fr tt)), (.long (((((tm v1_263 (0 : Int32) fr tt) + (tm v1_266 (1 : Int32) fr tt)) + (tm v1_269 (2 : Int32) fr tt)) + (tm v1_272 (3 : Int32) fr tt)) + (tm v1_275 (4 : Int32) fr tt)))]))
                refine Go.step (fun _ k => XS.ladd X_325.here hx rfl (hb hby at_269) rfl k) ?_
                show Go p e below _ (T_325.setTop (mkF m 270 #[vJ p0, .second, vJ p1, .second, vJ p2, .second, vI p3, vI p4, vR b262, vI fr, vI tt, vR b281, vJ (rdF (sel v1_263 v1_266 v1_269 v1_272 v1_275 v1_278) tt 6 fr (0 : Int64)), .second, vJ (tm v1_263 (0 : Int32) fr tt), .second, vJ (tm v1_266 (1 : Int32) fr tt), .second, vJ (tm v1_269 (2 : Int32) fr tt), .second, vJ (tm v1_272 (3 : Int32) fr tt), .second, vJ (tm v1_275 (4 : Int32) fr tt), .second, vJ (tm v1_278 (5 : Int32) fr tt), .second, vU, vU] [(.long ((((((tm v1_263 (0 : Int32) fr tt) + (tm v1_266 (1 : Int32) fr tt)) + (tm v1_269 (2 : Int32) fr tt)) + (tm v1_272 (3 : Int32) fr tt)) + (tm v1_275 (4 : Int32) fr tt)) + (tm v1_278 (5 : Int32) fr tt)))]))
                refine Go.step (fun _ k => XS.lstore X_325.here hx rfl (hb hby at_270) rfl (l' := #[vJ p0, .second, vJ p1, .second, vJ p2, .second, vI p3, vI p4, vR b262, vI fr, vI tt, vR b281, vJ (rdF (sel v1_263 v1_266 v1_269 v1_272 v1_275 v1_278) tt 6 fr (0 : Int64)), .second, vJ (tm v1_263 (0 : Int32) fr tt), .second, vJ (tm v1_266 (1 : Int32) fr tt), .second, vJ (tm v1_269 (2 : Int32) fr tt), .second, vJ (tm v1_272 (3 : Int32) fr tt), .second, vJ (tm v1_275 (4 : Int32) fr tt), .second, vJ (tm v1_278 (5 : Int32) fr tt), .second, vJ ((((((tm v1_263 (0 : Int32) fr tt) + (tm v1_266 (1 : Int32) fr tt)) + (tm v1_269 (2 : Int32) fr tt)) + (tm v1_272 (3 : Int32) fr tt)) + (tm v1_275 (4 : Int32) fr tt)) + (tm v1_278 (5 : Int32) fr tt)), .second]) rfl k) ?_
                show Go p e below _ (T_325.setTop (mkF m 272 #[vJ p0, .second, vJ p1, .second, vJ p2, .second, vI p3, vI p4, vR b262, vI fr, vI tt, vR b281, vJ (rdF (sel v1_263 v1_266 v1_269 v1_272 v1_275 v1_278) tt 6 fr (0 : Int64)), .second, vJ (tm v1_263 (0 : Int32) fr tt), .second, vJ (tm v1_266 (1 : Int32) fr tt), .second, vJ (tm v1_269 (2 : Int32) fr tt), .second, vJ (tm v1_272 (3 : Int32) fr tt), .second, vJ (tm v1_275 (4 : Int32) fr tt), .second, vJ (tm v1_278 (5 : Int32) fr tt), .second, vJ ((((((tm v1_263 (0 : Int32) fr tt) + (tm v1_266 (1 : Int32) fr tt)) + (tm v1_269 (2 : Int32) fr tt)) + (tm v1_272 (3 : Int32) fr tt)) + (tm v1_275 (4 : Int32) fr tt)) + (tm v1_278 (5 : Int32) fr tt)), .second] []))
                refine Go.step (fun _ k => XS.lload X_325.here hx rfl (hb hby at_272) rfl  k) ?_
                refine Go.step (fun _ k => XS.lload X_325.here hx rfl (hb hby at_274) rfl  k) ?_
                show Go p e below _ (T_325.setTop (mkF m 276 #[vJ p0, .second, vJ p1, .second, vJ p2, .second, vI p3, vI p4, vR b262, vI fr, vI tt, vR b281, vJ (rdF (sel v1_263 v1_266 v1_269 v1_272 v1_275 v1_278) tt 6 fr (0 : Int64)), .second, vJ (tm v1_263 (0 : Int32) fr tt), .second, vJ (tm v1_266 (1 : Int32) fr tt), .second, vJ (tm v1_269 (2 : Int32) fr tt), .second, vJ (tm v1_272 (3 : Int32) fr tt), .second, vJ (tm v1_275 (4 : Int32) fr tt), .second, vJ (tm v1_278 (5 : Int32) fr tt), .second, vJ ((((((tm v1_263 (0 : Int32) fr tt) + (tm v1_266 (1 : Int32) fr tt)) + (tm v1_269 (2 : Int32) fr tt)) + (tm v1_272 (3 : Int32) fr tt)) + (tm v1_275 (4 : Int32) fr tt)) + (tm v1_278 (5 : Int32) fr tt)), .second] [(.long ((((((tm v1_263 (0 : Int32) fr tt) + (tm v1_266 (1 : Int32) fr tt)) + (tm v1_269 (2 : Int32) fr tt)) + (tm v1_272 (3 : Int32) fr tt)) + (tm v1_275 (4 : Int32) fr tt)) + (tm v1_278 (5 : Int32) fr tt))), (.long (rdF (sel v1_263 v1_266 v1_269 v1_272 v1_275 v1_278) tt 6 fr (0 : Int64)))]))
                refine Go.step (fun _ k => XS.lcmp X_325.here hx rfl (hb hby at_276) rfl k) ?_
                show Go p e below _ (T_325.setTop (mkF m 277 #[vJ p0, .second, vJ p1, .second, vJ p2, .second, vI p3, vI p4, vR b262, vI fr, vI tt, vR b281, vJ (rdF (sel v1_263 v1_266 v1_269 v1_272 v1_275 v1_278) tt 6 fr (0 : Int64)), .second, vJ (tm v1_263 (0 : Int32) fr tt), .second, vJ (tm v1_266 (1 : Int32) fr tt), .second, vJ (tm v1_269 (2 : Int32) fr tt), .second, vJ (tm v1_272 (3 : Int32) fr tt), .second, vJ (tm v1_275 (4 : Int32) fr tt), .second, vJ (tm v1_278 (5 : Int32) fr tt), .second, vJ ((((((tm v1_263 (0 : Int32) fr tt) + (tm v1_266 (1 : Int32) fr tt)) + (tm v1_269 (2 : Int32) fr tt)) + (tm v1_272 (3 : Int32) fr tt)) + (tm v1_275 (4 : Int32) fr tt)) + (tm v1_278 (5 : Int32) fr tt)), .second] [(.int (lcmpW (rdF (sel v1_263 v1_266 v1_269 v1_272 v1_275 v1_278) tt 6 fr (0 : Int64)) ((((((tm v1_263 (0 : Int32) fr tt) + (tm v1_266 (1 : Int32) fr tt)) + (tm v1_269 (2 : Int32) fr tt)) + (tm v1_272 (3 : Int32) fr tt)) + (tm v1_275 (4 : Int32) fr tt)) + (tm v1_278 (5 : Int32) fr tt))))]))
                refine Go.step (fun _ k => XS.ifNo X_325.here hx rfl (hb hby at_277) rfl ((if0 _ _).trans (teq ((lw_eq _ _).mpr ((mathS hh0 hh1 hh2 hh3 hh4 hh5 h_ft w0 w1 w2 w3 w4 w5) : (rdF (sel v1_263 v1_266 v1_269 v1_272 v1_275 v1_278) tt 6 fr (0 : Int64)) = ((((((tm v1_263 (0 : Int32) fr tt) + (tm v1_266 (1 : Int32) fr tt)) + (tm v1_269 (2 : Int32) fr tt)) + (tm v1_272 (3 : Int32) fr tt)) + (tm v1_275 (4 : Int32) fr tt)) + (tm v1_278 (5 : Int32) fr tt))))).2) k) ?_
                show Go p e below _ (T_325.setTop (mkF m 280 #[vJ p0, .second, vJ p1, .second, vJ p2, .second, vI p3, vI p4, vR b262, vI fr, vI tt, vR b281, vJ (rdF (sel v1_263 v1_266 v1_269 v1_272 v1_275 v1_278) tt 6 fr (0 : Int64)), .second, vJ (tm v1_263 (0 : Int32) fr tt), .second, vJ (tm v1_266 (1 : Int32) fr tt), .second, vJ (tm v1_269 (2 : Int32) fr tt), .second, vJ (tm v1_272 (3 : Int32) fr tt), .second, vJ (tm v1_275 (4 : Int32) fr tt), .second, vJ (tm v1_278 (5 : Int32) fr tt), .second, vJ ((((((tm v1_263 (0 : Int32) fr tt) + (tm v1_266 (1 : Int32) fr tt)) + (tm v1_269 (2 : Int32) fr tt)) + (tm v1_272 (3 : Int32) fr tt)) + (tm v1_275 (4 : Int32) fr tt)) + (tm v1_278 (5 : Int32) fr tt)), .second] []))
                refine Go.step (fun _ k => XS.iconst X_325.here hx rfl (hb hby at_280) k) ?_
                show Go p e below _ (T_325.setTop (mkF m 281 #[vJ p0, .second, vJ p1, .second, vJ p2, .second, vI p3, vI p4, vR b262, vI fr, vI tt, vR b281, vJ (rdF (sel v1_263 v1_266 v1_269 v1_272 v1_275 v1_278) tt 6 fr (0 : Int64)), .second, vJ (tm v1_263 (0 : Int32) fr tt), .second, vJ (tm v1_266 (1 : Int32) fr tt), .second, vJ (tm v1_269 (2 : Int32) fr tt), .second, vJ (tm v1_272 (3 : Int32) fr tt), .second, vJ (tm v1_275 (4 : Int32) fr tt), .second, vJ (tm v1_278 (5 : Int32) fr tt), .second, vJ ((((((tm v1_263 (0 : Int32) fr tt) + (tm v1_266 (1 : Int32) fr tt)) + (tm v1_269 (2 : Int32) fr tt)) + (tm v1_272 (3 : Int32) fr tt)) + (tm v1_275 (4 : Int32) fr tt)) + (tm v1_278 (5 : Int32) fr tt)), .second] [(.int (1 : Int32))]))
                refine Go.step (fun _ k => XS.goto X_325.here hx rfl (pc0 := 281) (pc' := 285) rfl (hb hby at_281) (by decide) (by decide) k) ?_
                show Go p e below _ (T_325.setTop (mkF m 285 #[vJ p0, .second, vJ p1, .second, vJ p2, .second, vI p3, vI p4, vR b262, vI fr, vI tt, vR b281, vJ (rdF (sel v1_263 v1_266 v1_269 v1_272 v1_275 v1_278) tt 6 fr (0 : Int64)), .second, vJ (tm v1_263 (0 : Int32) fr tt), .second, vJ (tm v1_266 (1 : Int32) fr tt), .second, vJ (tm v1_269 (2 : Int32) fr tt), .second, vJ (tm v1_272 (3 : Int32) fr tt), .second, vJ (tm v1_275 (4 : Int32) fr tt), .second, vJ (tm v1_278 (5 : Int32) fr tt), .second, vJ ((((((tm v1_263 (0 : Int32) fr tt) + (tm v1_266 (1 : Int32) fr tt)) + (tm v1_269 (2 : Int32) fr tt)) + (tm v1_272 (3 : Int32) fr tt)) + (tm v1_275 (4 : Int32) fr tt)) + (tm v1_278 (5 : Int32) fr tt)), .second] [(.int (1 : Int32))]))
                exact Go.retV X_325 hx hlk hret rfl (Or.inl ⟨rfl, Or.inr (Or.inl rfl), _, rfl⟩) (hb hby at_285) (by decide) (by decide) (by rw [e_325]; exact ⟨rfl, N_325⟩)
--@E
set_option maxRecDepth 65536 in
set_option maxHeartbeats 40000000 in
theorem comes_1 {Post : Tables → Env → Array Value → State → Outcome → State → Prop} (hpost : ∀ tb e args s v u, (limb_1_1.after args s (.returned v) u = true ∧ limb_1_2.after args s (.returned v) u = true ∧ True) → FrameEnd s (.returned v) u (Jvm.fieldLocs frame_1_writes args s ++ Jvm.arrayLocs frame_1_arrays args s ++ Jvm.staticLocs frame_1_statics s) 16 128 → Post tb e args s (.returned v) u) :
    ArmFor flags0 classFile x code maxLocals ret World_1 tables_1 room_1 Calls_1 rest_1 Pre_1 Post := by
  intro l hfl _ _ p e ha hc hk s m args below hf hA hF happ hP
  obtain ⟨hcalls, hrest, hpre⟩ := hP
  obtain ⟨-, -, -, hnamed, -, -, -, hat⟩ := (Spec.applies_iff hf).mp happ
  obtain ⟨hg, hn⟩ := and_e (Cond.before_iff.mp (show (Jvm.Cond.and given_1 narrow_1).before args s = true from hpre))
  obtain ⟨g_c, g_0⟩ := and_e hg
  obtain ⟨ga_0, g_1⟩ := and_e g_0
  obtain ⟨ga_1, g_2⟩ := and_e g_1
  obtain ⟨ga_2, g_3⟩ := and_e g_2
  obtain ⟨ga_3, g_4⟩ := and_e g_3
  have ga_4 := g_4
  obtain ⟨w0, w1, w2, w3, w4, rfl⟩ : ∃ w0 w1 w2 w3 w4 : Value, args = #[w0, w1, w2, w3, w4] := by
    have hs : args.size = 5 := by simpa [Cond.value, given_1] using g_c
    obtain ⟨L⟩ := args
    match L, hs with
    | [w0, w1, w2, w3, w4], _ => exact ⟨w0, w1, w2, w3, w4, rfl⟩
  have hw := fun d (hd : d ∈ tables_1) => atoms_spec (ws := Jvm.Cond.code x code maxLocals ret :: tables_1) hat d (List.mem_cons_of_mem _ hd)
  obtain ⟨hsets, hown0⟩ := atoms_of _ (rest_1_c_eq ▸ (show rest_1_c.before _ s = true from hrest))
  obtain ⟨i0, ei0⟩ := isL_v ga_0
  obtain rfl : w0 = (.long i0) := Option.some.inj ei0
  obtain ⟨i1, ei1⟩ := isL_v ga_1
  obtain rfl : w1 = (.long i1) := Option.some.inj ei1
  obtain ⟨i2, ei2⟩ := isL_v ga_2
  obtain rfl : w2 = (.long i2) := Option.some.inj ei2
  obtain ⟨i3, ei3⟩ := is_v ga_3
  obtain rfl : w3 = (.int i3) := Option.some.inj ei3
  obtain ⟨i4, ei4⟩ := is_v ga_4
  obtain rfl : w4 = (.int i4) := Option.some.inj ei4
  have hs := fun (k : Nat) (d : Jvm.Cond) (h : jdkStatics_1[k]? = some d) => Cond.before_iff.mp (hsets d (List.mem_of_getElem? h))
  obtain ⟨zc, ezc⟩ := is_v (hs 1 _ rfl)
  have S_cs : Sta s s.heap "java/lang/String" "COMPACT_STRINGS" "Z" (.int zc) := Sta.start ezc (Or.inl (hsets _ (List.mem_of_getElem? (i := 0) rfl)))
  have n_cs : ¬ (zc = (0 : Int32)) := gotF (Cond.eq_ints ezc (Term.int_eval (0))) (not_v (hs 2 _ rfl))
  obtain ⟨vfm, v_fm, r_fm⟩ := isR_v (hs 8 _ rfl)
  have S_fm : Sta s s.heap "jdk/internal/util/Preconditions" "SIOOBE_FORMATTER" "Ljava/util/function/BiFunction;" vfm := Sta.start v_fm (Or.inl (hsets _ (List.mem_of_getElem? (i := 7) rfl)))
  have S_ad : Sta s s.heap "java/lang/StringUTF16" "$assertionsDisabled" "Z" (.int (1 : Int32)) := Sta.start (eqv_i (Term.int_eval (1 : Int32)) (hs 12 _ rfl)) (Or.inl (hsets _ (List.mem_of_getElem? (i := 11) rfl)))
  have S_hi : Sta s s.heap "java/lang/StringUTF16" "HI_BYTE_SHIFT" "I" (.int (0 : Int32)) := Sta.start (eqv_i (Term.int_eval (0 : Int32)) (hs 15 _ rfl)) (Or.inl (hsets _ (List.mem_of_getElem? (i := 14) rfl)))
  have S_lo : Sta s s.heap "java/lang/StringUTF16" "LO_BYTE_SHIFT" "I" (.int (8 : Int32)) := Sta.start (eqv_i (Term.int_eval (8 : Int32)) (hs 18 _ rfl)) (Or.inl (hsets _ (List.mem_of_getElem? (i := 17) rfl)))
  have hSt : St s zc vfm := ⟨S_cs, n_cs, S_fm, r_fm, S_ad, S_hi, S_lo⟩
  obtain ⟨n, o, h1, h2, h3, _, L, rfl, ⟨rfl, N⟩, hq⟩ := rm_law l s _ hw zc vfm i0 i1 i2 i3 i4 s.heap s.heap.size (Nat.le_refl _) hSt (Old.start s) p e ha hc hk s m _ below hf ((Spec.applies_iff_loose hf).mp happ).1 ⟨rfl, State.Warmed39.refl s, rfl⟩ trivial
  refine ⟨n, _, h1, h2, h3, hpost _ _ _ _ _ _ ⟨Cond.after_iff.mpr rfl, Cond.after_iff.mpr (eq_i res_at (Term.int_eval (1)) rfl), trivial⟩ ⟨hq.1, hq.2.1, (hq.2.2.sift fun y hy => Or.inr (N y hy)).mono (by decide) (by decide)⟩⟩
theorem main_1_1 : Claimed_1_1 := comes_1 fun _ _ _ _ _ _ h hF => ⟨h.1, hF⟩
theorem main_1_2 : Claimed_1_2 := comes_1 fun _ _ _ _ _ _ h hF => ⟨h.2.1, hF⟩
end Jvm.Pilot.@@N@@
namespace Jvm.Pilot.@@N@@
open Jvm Jvm.ClassFile Sem Op Lib Jvm.Free Jvm.Stand Jvm.Pilot.@@N@@.Jvm.D
/-! MADE BY PROGRAM (witnessworld.py) out of the Statement's table words and the real class files: 20 classes; the members and pool entries that the words name. The judged class is class 1, her method 5. -/
namespace start1
open Jvm.ClassFile
def u (s : String) : CpInfo := .utf8 (stringToUtf16 s)
/-- a pool by its gaps: so many unusable entries, then the entry; so many at the end -/
def gap : Nat → List CpInfo → List CpInfo
  | 0, r => r
  | n + 1, r => .unusable :: gap n r
def poolList (es : List (Nat × CpInfo)) (last : Nat) : List CpInfo := es.foldr (fun e r => gap e.1 (e.2 :: r)) (gap last [])
def pool (es : List (Nat × CpInfo)) (last : Nat) : Array CpInfo := ⟨poolList es last⟩
def fileOf (pool : Array CpInfo) (this : Nat) (attrs : Array Attribute := #[]) (ms : Array MethodInfo := #[]) (fl : Nat := 33) (sup : Nat := 0) (ifs : Array Nat := #[]) (fds : Array FieldInfo := #[]) : ClassFile where
  minorVersion := 0
  majorVersion := 65
  constantPool := pool
  accessFlags := fl
  thisClass := this
  superClass := sup
  interfaces := ifs
  fields := fds
  methods := ms
  attributes := attrs
def plain (name : String) (sup : Option ClassId) : Class where
  name := name
  kind := .ordinary
  loader := none
  accessFlags := 33
  super := sup
  interfaces := #[]
  cf := none
  fields := #[]
  methods := #[]
  instanceTypes := #[]
  staticTypes := #[]
  resolved := #[]
  callSites := []
  init := .initialized
  statics := none
  mirror := none

def pool0 : Array CpInfo := pool [(5, u "<init>"), (0, u "()V"), (1, .class_ 10), (1, u "java/lang/Object")] 113

def k0c0 : Code := { maxStack := 0, maxLocals := 1, code := object_method_1_code, exceptionTable := #[], attributes := #[] }
def k0m0 : Method := { name := "<init>", desc := "()V", sig := { parameters := [], returnType := none }, accessFlags := 1, code := some k0c0 }
/-- java/lang/Object -/
def k0 : Class := { plain "java/lang/Object" none with
  accessFlags := 33
  interfaces := #[]
  cf := some (fileOf pool0 8 #[] #[{ accessFlags := 1, nameIndex := 5, descriptorIndex := 6, attributes := #[] }] 33 0 #[] #[])
  fields := #[]
  methods := #[k0m0]
  instanceTypes := #[]
  staticTypes := #[]
  resolved := Array.replicate 124 none
  statics := none }

def pool1 : Array CpInfo := pool [(2, .class_ 4), (1, u "java/lang/Object"), (0, u "<init>"), (0, u "()V"), (0, .integer 65535), (0, .long 10), (1, .long 100), (1, .long 1000), (1, .long 10000), (1, .long 100000), (1, .methodref 19 20), (0, .class_ 21), (0, .nameAndType 22 23), (0, u "com/example/sigyn/sigyn/DigitsReadPinLaw"), (0, u "digitValue"), (0, u "(C)I"), (0, .long 18446744073709551615), (1, .methodref 19 27), (0, .nameAndType 28 29), (0, u "pow10"), (0, u "(I)J"), (0, .methodref 19 31), (0, .nameAndType 32 33), (0, u "pick"), (0, u "(I)C"), (0, .integer 2147483647), (0, .class_ 36), (0, u "java/lang/String"), (0, .methodref 35 38), (0, .nameAndType 5 39), (0, u "([C)V"), (0, .methodref 41 42), (0, .class_ 43), (0, .nameAndType 44 45), (0, u "com/example/sigyn/sigyn/Digits"), (0, u "read"), (0, u "(Ljava/lang/String;II)J"), (0, .methodref 19 47), (0, .nameAndType 48 49), (0, u "term"), (0, u "(CIII)J"), (3, u "law"), (0, u "(JJJII)Z")] 4

def k1m0 : Method := { name := "<init>", desc := "()V", sig := { parameters := [], returnType := none }, accessFlags := 1, code := none }
def k1c1 : Code := { maxStack := 3, maxLocals := 1, code := method_2_code, exceptionTable := #[], attributes := #[] }
def k1m1 : Method := { name := "pick", desc := "(I)C", sig := { parameters := [.int], returnType := some .char }, accessFlags := 10, code := some k1c1 }
def k1c2 : Code := { maxStack := 2, maxLocals := 1, code := method_3_code, exceptionTable := #[], attributes := #[] }
def k1m2 : Method := { name := "digitValue", desc := "(C)I", sig := { parameters := [.char], returnType := some .int }, accessFlags := 10, code := some k1c2 }
def k1c3 : Code := { maxStack := 2, maxLocals := 1, code := method_4_code, exceptionTable := #[], attributes := #[] }
def k1m3 : Method := { name := "pow10", desc := "(I)J", sig := { parameters := [.int], returnType := some .long }, accessFlags := 10, code := some k1c3 }
def k1c4 : Code := { maxStack := 4, maxLocals := 5, code := method_5_code, exceptionTable := #[], attributes := #[] }
def k1m4 : Method := { name := "term", desc := "(CIII)J", sig := { parameters := [.char, .int, .int, .int], returnType := some .long }, accessFlags := 10, code := some k1c4 }
def k1c5 : Code := { maxStack := 5, maxLocals := 28, code := code, exceptionTable := #[], attributes := #[] }
def k1m5 : Method := { name := "law", desc := "(JJJII)Z", sig := { parameters := [.long, .long, .long, .int, .int], returnType := some .boolean }, accessFlags := 9, code := some k1c5 }
/-- com/example/sigyn/sigyn/DigitsReadPinLaw -/
def k1 : Class := { plain "com/example/sigyn/sigyn/DigitsReadPinLaw" (some 0) with
  accessFlags := 49
  interfaces := #[]
  cf := some (fileOf pool1 19 #[] #[{ accessFlags := 1, nameIndex := 5, descriptorIndex := 6, attributes := #[] }, { accessFlags := 10, nameIndex := 32, descriptorIndex := 33, attributes := #[] }, { accessFlags := 10, nameIndex := 22, descriptorIndex := 23, attributes := #[] }, { accessFlags := 10, nameIndex := 28, descriptorIndex := 29, attributes := #[] }, { accessFlags := 10, nameIndex := 48, descriptorIndex := 49, attributes := #[] }, { accessFlags := 9, nameIndex := 53, descriptorIndex := 54, attributes := #[] }] 49 2 #[] #[])
  fields := #[]
  methods := #[k1m0, k1m1, k1m2, k1m3, k1m4, k1m5]
  instanceTypes := #[]
  staticTypes := #[]
  resolved := Array.replicate 59 none
  statics := none }

def pool2 : Array CpInfo := pool [(1, .class_ 2), (0, u "java/io/Serializable"), (0, .class_ 4), (0, u "java/lang/Object")] 2

/-- java/io/Serializable -/
def k2 : Class := { plain "java/io/Serializable" (some 0) with
  accessFlags := 1537
  interfaces := #[]
  cf := some (fileOf pool2 1 #[] #[] 1537 3 #[] #[])
  fields := #[]
  methods := #[]
  instanceTypes := #[]
  staticTypes := #[]
  resolved := Array.replicate 7 none
  statics := none }

def pool3 : Array CpInfo := pool [(1, .class_ 2), (0, u "java/lang/Comparable"), (0, .class_ 4), (0, u "java/lang/Object")] 7

/-- java/lang/Comparable -/
def k3 : Class := { plain "java/lang/Comparable" (some 0) with
  accessFlags := 1537
  interfaces := #[]
  cf := some (fileOf pool3 1 #[] #[] 1537 3 #[] #[])
  fields := #[]
  methods := #[]
  instanceTypes := #[]
  staticTypes := #[]
  resolved := Array.replicate 12 none
  statics := none }

def pool4 : Array CpInfo := pool [(2, .class_ 4), (1, u "java/lang/CharSequence"), (42, .class_ 48), (0, u "java/lang/CharSequence$1CodePointIterator"), (10, .class_ 60), (0, u "java/lang/CharSequence$1CharIterator"), (5, .class_ 67), (0, u "java/lang/Object")] 63

/-- java/lang/CharSequence -/
def k4 : Class := { plain "java/lang/CharSequence" (some 0) with
  accessFlags := 1537
  interfaces := #[]
  cf := some (fileOf pool4 2 #[.nestMembers #[47, 59]] #[] 1537 66 #[] #[])
  fields := #[]
  methods := #[]
  instanceTypes := #[]
  staticTypes := #[]
  resolved := Array.replicate 131 none
  statics := none }

def pool5 : Array CpInfo := pool [(1, .class_ 2), (0, u "java/lang/constant/Constable"), (0, .class_ 4), (0, u "java/lang/Object")] 6

/-- java/lang/constant/Constable -/
def k5 : Class := { plain "java/lang/constant/Constable" (some 0) with
  accessFlags := 1537
  interfaces := #[]
  cf := some (fileOf pool5 1 #[] #[] 1537 3 #[] #[])
  fields := #[]
  methods := #[]
  instanceTypes := #[]
  staticTypes := #[]
  resolved := Array.replicate 11 none
  statics := none }

def pool6 : Array CpInfo := pool [(1, .class_ 2), (0, u "java/lang/constant/ConstantDesc"), (0, .class_ 4), (0, u "java/lang/Object")] 32

/-- java/lang/constant/ConstantDesc -/
def k6 : Class := { plain "java/lang/constant/ConstantDesc" (some 0) with
  accessFlags := 1537
  interfaces := #[]
  cf := some (fileOf pool6 1 #[] #[] 1537 3 #[] #[])
  fields := #[]
  methods := #[]
  instanceTypes := #[]
  staticTypes := #[]
  resolved := Array.replicate 37 none
  statics := none }

def pool7 : Array CpInfo := pool [(1, .methodref 2 3), (0, .class_ 4), (0, .nameAndType 5 6), (0, u "java/lang/Object"), (0, u "<init>"), (0, u "()V"), (2, .fieldref 10 11), (0, .class_ 12), (0, .nameAndType 13 14), (0, u "java/lang/String"), (0, u "value"), (0, u "[B"), (0, .fieldref 10 16), (0, .nameAndType 17 18), (0, u "coder"), (0, u "B"), (2, u "hash"), (0, u "I"), (2, u "hashIsZero"), (0, u "Z"), (0, .methodref 10 28), (0, .nameAndType 5 29), (0, u "([CIILjava/lang/Void;)V"), (8, .fieldref 10 39), (0, .nameAndType 40 26), (0, u "COMPACT_STRINGS"), (1, .class_ 44), (1, u "java/lang/StringUTF16"), (0, u "compress"), (1, .methodref 42 48), (0, .nameAndType 49 50), (0, u "coderFromArrayLen"), (0, u "([BI)B"), (56, .class_ 109), (1, u "java/lang/StringLatin1"), (32, u "()Z"), (34, .methodref 42 178), (0, .nameAndType 45 179), (0, u "([CII)[B"), (183, u "([BI)C"), (27, u "(II)V"), (35, u "(I)C"), (64, .methodref 10 493), (0, .nameAndType 494 142), (0, u "isLatin1"), (0, .methodref 107 496), (0, .nameAndType 497 363), (0, u "charAt"), (0, .methodref 42 496), (2, u "checkIndex"), (73, .class_ 576), (0, u "java/lang/CharSequence"), (22, u "CASE_INSENSITIVE_ORDER"), (0, u "Ljava/util/Comparator;"), (409, u "([C)V"), (42, .fieldref 1054 1055), (0, .class_ 1056), (0, .nameAndType 1057 1058), (0, u "jdk/internal/util/Preconditions"), (0, u "SIOOBE_FORMATTER"), (0, u "Ljava/util/function/BiFunction;"), (0, .methodref 1054 1060), (0, .nameAndType 501 1061), (0, u "(IILjava/util/function/BiFunction;)I"), (39, u "serialPersistentFields"), (0, u "[Ljava/io/ObjectStreamField;"), (0, .class_ 1104), (0, u "java/lang/String$CaseInsensitiveComparator"), (1, .class_ 1107), (0, u "java/io/Serializable"), (0, .class_ 1109), (0, u "java/lang/Comparable"), (0, .class_ 1111), (0, u "java/lang/constant/Constable"), (0, .class_ 1113), (0, u "java/lang/constant/ConstantDesc"), (2, u "serialVersionUID"), (0, u "J"), (3, u "REPL"), (0, u "C"), (2, u "LATIN1"), (1, u "UTF16")] 323

def k7m0 : Method := { name := "<init>", desc := "()V", sig := { parameters := [], returnType := none }, accessFlags := 1, code := none }
def k7c1 : Code := { maxStack := 5, maxLocals := 2, code := jdk_42_method_3_code, exceptionTable := #[], attributes := #[] }
def k7m1 : Method := { name := "<init>", desc := "([C)V", sig := { parameters := [(.array .char)], returnType := none }, accessFlags := 1, code := some k7c1 }
def k7c2 : Code := { maxStack := 2, maxLocals := 2, code := jdk_42_method_56_code, exceptionTable := #[], attributes := #[] }
def k7m2 : Method := { name := "charAt", desc := "(I)C", sig := { parameters := [.int], returnType := some .char }, accessFlags := 1, code := some k7c2 }
def k7c3 : Code := { maxStack := 4, maxLocals := 6, code := jdk_42_method_149_code, exceptionTable := #[], attributes := #[] }
def k7m3 : Method := { name := "<init>", desc := "([CIILjava/lang/Void;)V", sig := { parameters := [(.array .char), .int, .int, (.object "java/lang/Void")], returnType := none }, accessFlags := 2, code := some k7c3 }
def k7c4 : Code := { maxStack := 1, maxLocals := 1, code := jdk_42_method_154_code, exceptionTable := #[], attributes := #[] }
def k7m4 : Method := { name := "isLatin1", desc := "()Z", sig := { parameters := [], returnType := some .boolean }, accessFlags := 0, code := some k7c4 }
def k7c5 : Code := { maxStack := 3, maxLocals := 2, code := jdk_42_method_155_code, exceptionTable := #[], attributes := #[] }
def k7m5 : Method := { name := "checkIndex", desc := "(II)V", sig := { parameters := [.int, .int], returnType := none }, accessFlags := 8, code := some k7c5 }
/-- java/lang/String -/
def k7 : Class := { plain "java/lang/String" (some 0) with
  accessFlags := 49
  interfaces := #[2, 3, 4, 5, 6]
  cf := some (fileOf pool7 10 #[.nestMembers #[1103]] #[{ accessFlags := 1, nameIndex := 5, descriptorIndex := 6, attributes := #[] }, { accessFlags := 1, nameIndex := 5, descriptorIndex := 1010, attributes := #[] }, { accessFlags := 1, nameIndex := 497, descriptorIndex := 427, attributes := #[] }, { accessFlags := 2, nameIndex := 5, descriptorIndex := 29, attributes := #[] }, { accessFlags := 0, nameIndex := 494, descriptorIndex := 142, attributes := #[] }, { accessFlags := 8, nameIndex := 501, descriptorIndex := 391, attributes := #[] }] 49 2 #[1106, 1108, 575, 1110, 1112] #[{ accessFlags := 18, nameIndex := 13, descriptorIndex := 14, attributes := #[] }, { accessFlags := 18, nameIndex := 17, descriptorIndex := 18, attributes := #[] }, { accessFlags := 2, nameIndex := 21, descriptorIndex := 22, attributes := #[] }, { accessFlags := 2, nameIndex := 25, descriptorIndex := 26, attributes := #[] }, { accessFlags := 26, nameIndex := 1116, descriptorIndex := 1117, attributes := #[] }, { accessFlags := 24, nameIndex := 40, descriptorIndex := 26, attributes := #[] }, { accessFlags := 26, nameIndex := 1101, descriptorIndex := 1102, attributes := #[] }, { accessFlags := 26, nameIndex := 1121, descriptorIndex := 1122, attributes := #[] }, { accessFlags := 25, nameIndex := 599, descriptorIndex := 600, attributes := #[] }, { accessFlags := 24, nameIndex := 1125, descriptorIndex := 18, attributes := #[] }, { accessFlags := 24, nameIndex := 1127, descriptorIndex := 18, attributes := #[] }])
  fields := #[{ name := "value", type := (.array .byte), accessFlags := 18, slot := 0, constantValue := 0 }, { name := "coder", type := .byte, accessFlags := 18, slot := 1, constantValue := 0 }, { name := "hash", type := .int, accessFlags := 2, slot := 2, constantValue := 0 }, { name := "hashIsZero", type := .boolean, accessFlags := 2, slot := 3, constantValue := 0 }, { name := "serialVersionUID", type := .long, accessFlags := 26, slot := 0, constantValue := 0 }, { name := "COMPACT_STRINGS", type := .boolean, accessFlags := 24, slot := 1, constantValue := 0 }, { name := "serialPersistentFields", type := (.array (.object "java/io/ObjectStreamField")), accessFlags := 26, slot := 2, constantValue := 0 }, { name := "REPL", type := .char, accessFlags := 26, slot := 3, constantValue := 0 }, { name := "CASE_INSENSITIVE_ORDER", type := (.object "java/util/Comparator"), accessFlags := 25, slot := 4, constantValue := 0 }, { name := "LATIN1", type := .byte, accessFlags := 24, slot := 5, constantValue := 0 }, { name := "UTF16", type := .byte, accessFlags := 24, slot := 6, constantValue := 0 }]
  methods := #[k7m0, k7m1, k7m2, k7m3, k7m4, k7m5]
  instanceTypes := #[(.array .byte), .byte, .int, .boolean]
  staticTypes := #[.long, .boolean, (.array (.object "java/io/ObjectStreamField")), .char, (.object "java/util/Comparator"), .byte, .byte]
  resolved := Array.replicate 1451 none
  statics := some 0 }

def pool8 : Array CpInfo := pool [(3, .class_ 4), (0, u "java/lang/String"), (1, .class_ 8), (1, u "java/lang/Object"), (0, u "<init>"), (0, u "()V"), (0, .methodref 12 13), (0, .class_ 14), (0, .nameAndType 15 16), (0, u "java/lang/StringUTF16"), (0, u "newBytesLength"), (0, u "(I)I"), (3, .integer 1073741823), (23, .fieldref 12 45), (0, .nameAndType 46 47), (0, u "$assertionsDisabled"), (0, u "Z"), (0, .methodref 12 49), (0, .nameAndType 50 51), (0, u "length"), (0, u "([B)I"), (7, .fieldref 12 60), (0, .nameAndType 61 62), (0, u "HI_BYTE_SHIFT"), (0, u "I"), (0, .fieldref 12 64), (0, .nameAndType 65 62), (0, u "LO_BYTE_SHIFT"), (1, .methodref 12 68), (0, .nameAndType 69 70), (0, u "checkIndex"), (0, u "(I[B)V"), (0, .methodref 12 72), (0, .nameAndType 73 74), (0, u "getChar"), (0, u "([BI)C"), (32, .methodref 12 108), (0, .nameAndType 109 110), (0, u "newBytesFor"), (0, u "(I)[B"), (0, .methodref 12 112), (0, .nameAndType 113 114), (0, u "putChar"), (0, u "([BII)V"), (0, .methodref 12 116), (0, .nameAndType 117 118), (0, u "compress"), (0, u "([CI[BII)I"), (0, .methodref 12 120), (0, .nameAndType 121 122), (0, u "toBytes"), (0, u "([CII)[B"), (138, u "coderFromArrayLen"), (0, u "([BI)B"), (106, .class_ 371), (1, u "java/lang/StringUTF16$LinesSpliterator"), (20, u "charAt"), (21, .methodref 3 415), (0, .nameAndType 69 416), (0, u "(II)V"), (13, u "MAX_LENGTH"), (196, .class_ 628), (0, u "java/lang/StringUTF16$CodePointsSpliterator"), (0, .class_ 630), (0, u "java/lang/StringUTF16$CharsSpliterator")] 4

def k8m0 : Method := { name := "<init>", desc := "()V", sig := { parameters := [], returnType := none }, accessFlags := 0, code := none }
def k8c1 : Code := { maxStack := 1, maxLocals := 1, code := jdk_52_method_2_code, exceptionTable := #[], attributes := #[] }
def k8m1 : Method := { name := "newBytesFor", desc := "(I)[B", sig := { parameters := [.int], returnType := some (.array .byte) }, accessFlags := 9, code := some k8c1 }
def k8c2 : Code := { maxStack := 4, maxLocals := 1, code := jdk_52_method_3_code, exceptionTable := #[], attributes := #[] }
def k8m2 : Method := { name := "newBytesLength", desc := "(I)I", sig := { parameters := [.int], returnType := some .int }, accessFlags := 9, code := some k8c2 }
def k8c3 : Code := { maxStack := 4, maxLocals := 3, code := jdk_52_method_4_code, exceptionTable := #[], attributes := #[] }
def k8m3 : Method := { name := "putChar", desc := "([BII)V", sig := { parameters := [(.array .byte), .int, .int], returnType := none }, accessFlags := 8, code := some k8c3 }
def k8c4 : Code := { maxStack := 3, maxLocals := 2, code := jdk_52_method_5_code, exceptionTable := #[], attributes := #[] }
def k8m4 : Method := { name := "getChar", desc := "([BI)C", sig := { parameters := [(.array .byte), .int], returnType := some .char }, accessFlags := 8, code := some k8c4 }
def k8c5 : Code := { maxStack := 2, maxLocals := 1, code := jdk_52_method_6_code, exceptionTable := #[], attributes := #[] }
def k8m5 : Method := { name := "length", desc := "([B)I", sig := { parameters := [(.array .byte)], returnType := some .int }, accessFlags := 9, code := some k8c5 }
def k8c6 : Code := { maxStack := 4, maxLocals := 5, code := jdk_52_method_14_code, exceptionTable := #[], attributes := #[] }
def k8m6 : Method := { name := "toBytes", desc := "([CII)[B", sig := { parameters := [(.array .char), .int, .int], returnType := some (.array .byte) }, accessFlags := 9, code := some k8c6 }
def k8c7 : Code := { maxStack := 2, maxLocals := 2, code := jdk_52_method_15_code, exceptionTable := #[], attributes := #[] }
def k8m7 : Method := { name := "coderFromArrayLen", desc := "([BI)B", sig := { parameters := [(.array .byte), .int], returnType := some .byte }, accessFlags := 8, code := some k8c7 }
def k8c8 : Code := { maxStack := 5, maxLocals := 6, code := jdk_52_method_16_code, exceptionTable := #[], attributes := #[] }
def k8m8 : Method := { name := "compress", desc := "([CII)[B", sig := { parameters := [(.array .char), .int, .int], returnType := some (.array .byte) }, accessFlags := 9, code := some k8c8 }
def k8c9 : Code := { maxStack := 3, maxLocals := 7, code := jdk_52_method_21_code, exceptionTable := #[], attributes := #[] }
def k8m9 : Method := { name := "compress", desc := "([CI[BII)I", sig := { parameters := [(.array .char), .int, (.array .byte), .int, .int], returnType := some .int }, accessFlags := 9, code := some k8c9 }
def k8c10 : Code := { maxStack := 2, maxLocals := 2, code := jdk_52_method_83_code, exceptionTable := #[], attributes := #[] }
def k8m10 : Method := { name := "charAt", desc := "([BI)C", sig := { parameters := [(.array .byte), .int], returnType := some .char }, accessFlags := 9, code := some k8c10 }
def k8c11 : Code := { maxStack := 2, maxLocals := 2, code := jdk_52_method_91_code, exceptionTable := #[], attributes := #[] }
def k8m11 : Method := { name := "checkIndex", desc := "(I[B)V", sig := { parameters := [.int, (.array .byte)], returnType := none }, accessFlags := 9, code := some k8c11 }
/-- java/lang/StringUTF16 -/
def k8 : Class := { plain "java/lang/StringUTF16" (some 0) with
  accessFlags := 48
  interfaces := #[]
  cf := some (fileOf pool8 12 #[.nestMembers #[627, 629, 369]] #[{ accessFlags := 0, nameIndex := 9, descriptorIndex := 10, attributes := #[] }, { accessFlags := 9, nameIndex := 109, descriptorIndex := 110, attributes := #[] }, { accessFlags := 9, nameIndex := 15, descriptorIndex := 16, attributes := #[] }, { accessFlags := 8, nameIndex := 113, descriptorIndex := 114, attributes := #[] }, { accessFlags := 8, nameIndex := 73, descriptorIndex := 74, attributes := #[] }, { accessFlags := 9, nameIndex := 50, descriptorIndex := 51, attributes := #[] }, { accessFlags := 9, nameIndex := 121, descriptorIndex := 122, attributes := #[] }, { accessFlags := 8, nameIndex := 261, descriptorIndex := 262, attributes := #[] }, { accessFlags := 9, nameIndex := 117, descriptorIndex := 122, attributes := #[] }, { accessFlags := 9, nameIndex := 117, descriptorIndex := 118, attributes := #[] }, { accessFlags := 9, nameIndex := 392, descriptorIndex := 74, attributes := #[] }, { accessFlags := 9, nameIndex := 69, descriptorIndex := 70, attributes := #[] }] 48 6 #[] #[{ accessFlags := 26, nameIndex := 61, descriptorIndex := 62, attributes := #[] }, { accessFlags := 26, nameIndex := 65, descriptorIndex := 62, attributes := #[] }, { accessFlags := 24, nameIndex := 430, descriptorIndex := 62, attributes := #[] }, { accessFlags := 4120, nameIndex := 46, descriptorIndex := 47, attributes := #[] }])
  fields := #[{ name := "HI_BYTE_SHIFT", type := .int, accessFlags := 26, slot := 0, constantValue := 0 }, { name := "LO_BYTE_SHIFT", type := .int, accessFlags := 26, slot := 1, constantValue := 0 }, { name := "MAX_LENGTH", type := .int, accessFlags := 24, slot := 2, constantValue := 0 }, { name := "$assertionsDisabled", type := .boolean, accessFlags := 4120, slot := 3, constantValue := 0 }]
  methods := #[k8m0, k8m1, k8m2, k8m3, k8m4, k8m5, k8m6, k8m7, k8m8, k8m9, k8m10, k8m11]
  instanceTypes := #[]
  staticTypes := #[.int, .int, .int, .boolean]
  resolved := Array.replicate 635 none
  statics := some 1 }

def pool9 : Array CpInfo := pool [(2, .class_ 4), (1, u "java/lang/Object"), (0, u "<init>"), (0, u "()V"), (0, .methodref 8 9), (0, .class_ 10), (0, .nameAndType 11 12), (0, u "java/lang/String"), (0, u "charAt"), (0, u "(I)C"), (0, .long 18446744073709551615), (1, .long 10), (1, .class_ 18), (0, u "com/example/sigyn/sigyn/Digits"), (2, u "read"), (0, u "(Ljava/lang/String;II)J")] 3

def k9m0 : Method := { name := "<init>", desc := "()V", sig := { parameters := [], returnType := none }, accessFlags := 2, code := none }
def k9c1 : Code := { maxStack := 4, maxLocals := 7, code := prog_1_method_2_code, exceptionTable := #[], attributes := #[] }
def k9m1 : Method := { name := "read", desc := "(Ljava/lang/String;II)J", sig := { parameters := [(.object "java/lang/String"), .int, .int], returnType := some .long }, accessFlags := 8, code := some k9c1 }
/-- com/example/sigyn/sigyn/Digits -/
def k9 : Class := { plain "com/example/sigyn/sigyn/Digits" (some 0) with
  accessFlags := 32
  interfaces := #[]
  cf := some (fileOf pool9 17 #[] #[{ accessFlags := 2, nameIndex := 5, descriptorIndex := 6, attributes := #[] }, { accessFlags := 8, nameIndex := 21, descriptorIndex := 22, attributes := #[] }] 32 2 #[] #[])
  fields := #[]
  methods := #[k9m0, k9m1]
  instanceTypes := #[]
  staticTypes := #[]
  resolved := Array.replicate 26 none
  statics := none }

def pool10 : Array CpInfo := pool [(2, .class_ 4), (1, u "java/lang/Object"), (0, u "<init>"), (0, u "()V"), (17, .class_ 26), (1, u "jdk/internal/util/Preconditions"), (6, u "checkIndex"), (21, .class_ 56), (0, u "jdk/internal/util/Preconditions$4"), (57, .class_ 115), (0, u "jdk/internal/util/Preconditions$1"), (7, u "SIOOBE_FORMATTER"), (0, u "Ljava/util/function/BiFunction;"), (0, .class_ 126), (0, u "jdk/internal/util/Preconditions$2"), (3, u "AIOOBE_FORMATTER"), (0, .class_ 132), (0, u "jdk/internal/util/Preconditions$3"), (3, u "IOOBE_FORMATTER"), (41, u "(IILjava/util/function/BiFunction;)I")] 15

def k10m0 : Method := { name := "<init>", desc := "()V", sig := { parameters := [], returnType := none }, accessFlags := 1, code := none }
def k10c1 : Code := { maxStack := 3, maxLocals := 3, code := jdk_41_method_11_code, exceptionTable := #[], attributes := #[] }
def k10m1 : Method := { name := "checkIndex", desc := "(IILjava/util/function/BiFunction;)I", sig := { parameters := [.int, .int, (.object "java/util/function/BiFunction")], returnType := some .int }, accessFlags := 9, code := some k10c1 }
/-- jdk/internal/util/Preconditions -/
def k10 : Class := { plain "jdk/internal/util/Preconditions" (some 0) with
  accessFlags := 33
  interfaces := #[]
  cf := some (fileOf pool10 24 #[.nestMembers #[55, 131, 125, 114]] #[{ accessFlags := 1, nameIndex := 5, descriptorIndex := 6, attributes := #[] }, { accessFlags := 9, nameIndex := 33, descriptorIndex := 178, attributes := #[] }] 33 2 #[] #[{ accessFlags := 25, nameIndex := 123, descriptorIndex := 124, attributes := #[] }, { accessFlags := 25, nameIndex := 130, descriptorIndex := 124, attributes := #[] }, { accessFlags := 25, nameIndex := 136, descriptorIndex := 124, attributes := #[] }])
  fields := #[{ name := "SIOOBE_FORMATTER", type := (.object "java/util/function/BiFunction"), accessFlags := 25, slot := 0, constantValue := 0 }, { name := "AIOOBE_FORMATTER", type := (.object "java/util/function/BiFunction"), accessFlags := 25, slot := 1, constantValue := 0 }, { name := "IOOBE_FORMATTER", type := (.object "java/util/function/BiFunction"), accessFlags := 25, slot := 2, constantValue := 0 }]
  methods := #[k10m0, k10m1]
  instanceTypes := #[]
  staticTypes := #[(.object "java/util/function/BiFunction"), (.object "java/util/function/BiFunction"), (.object "java/util/function/BiFunction")]
  resolved := Array.replicate 194 none
  statics := some 2 }

def pool11 : Array CpInfo := pool [(1, .class_ 2), (0, u "java/lang/String"), (1, .class_ 6), (1, u "java/lang/Object"), (0, u "<init>"), (0, u "()V"), (0, .methodref 1 10), (0, .nameAndType 11 12), (0, u "checkIndex"), (0, u "(II)V"), (1, .class_ 16), (1, u "java/lang/StringLatin1"), (36, u "([BI)C"), (67, u "$assertionsDisabled"), (0, u "Z"), (98, .class_ 223), (1, u "java/lang/StringLatin1$LinesSpliterator"), (28, u "charAt"), (137, .class_ 391), (0, u "java/lang/StringLatin1$CharsSpliterator")] 3

def k11m0 : Method := { name := "<init>", desc := "()V", sig := { parameters := [], returnType := none }, accessFlags := 0, code := none }
def k11c1 : Code := { maxStack := 2, maxLocals := 2, code := jdk_43_method_2_code, exceptionTable := #[], attributes := #[] }
def k11m1 : Method := { name := "charAt", desc := "([BI)C", sig := { parameters := [(.array .byte), .int], returnType := some .char }, accessFlags := 9, code := some k11c1 }
/-- java/lang/StringLatin1 -/
def k11 : Class := { plain "java/lang/StringLatin1" (some 0) with
  accessFlags := 48
  interfaces := #[]
  cf := some (fileOf pool11 14 #[.nestMembers #[390, 221]] #[{ accessFlags := 0, nameIndex := 7, descriptorIndex := 8, attributes := #[] }, { accessFlags := 9, nameIndex := 252, descriptorIndex := 53, attributes := #[] }] 48 4 #[] #[{ accessFlags := 4120, nameIndex := 121, descriptorIndex := 122, attributes := #[] }])
  fields := #[{ name := "$assertionsDisabled", type := .boolean, accessFlags := 4120, slot := 0, constantValue := 0 }]
  methods := #[k11m0, k11m1]
  instanceTypes := #[]
  staticTypes := #[.boolean]
  resolved := Array.replicate 395 none
  statics := none }

def pool12 : Array CpInfo := pool [(9, u "<init>"), (6, .class_ 18), (1, u "java/lang/Object"), (0, u "()V"), (1, .class_ 23), (1, u "jdk/internal/util/ArraysSupport"), (0, u "LOG2_ARRAY_LONG_INDEX_SCALE"), (0, u "I"), (2, u "U"), (0, u "Ljdk/internal/misc/Unsafe;"), (8, u "BIG_ENDIAN"), (0, u "Z"), (8, u "LOG2_BYTE_BIT_SIZE"), (4, u "LOG2_ARRAY_INT_INDEX_SCALE"), (54, u "JLA"), (0, u "Ljdk/internal/access/JavaLangAccess;"), (11, u "LOG2_ARRAY_BOOLEAN_INDEX_SCALE"), (9, u "LOG2_ARRAY_BYTE_INDEX_SCALE"), (5, u "LOG2_ARRAY_CHAR_INDEX_SCALE"), (5, u "LOG2_ARRAY_SHORT_INDEX_SCALE"), (18, u "LOG2_ARRAY_FLOAT_INDEX_SCALE"), (24, u "LOG2_ARRAY_DOUBLE_INDEX_SCALE"), (89, u "T_BOOLEAN"), (2, u "T_CHAR"), (1, u "T_FLOAT"), (1, u "T_DOUBLE"), (1, u "T_BYTE"), (1, u "T_SHORT"), (1, u "T_INT"), (1, u "T_LONG"), (1, u "SOFT_MAX_ARRAY_LENGTH")] 83

def k12m0 : Method := { name := "<init>", desc := "()V", sig := { parameters := [], returnType := none }, accessFlags := 2, code := none }
/-- jdk/internal/util/ArraysSupport -/
def k12 : Class := { plain "jdk/internal/util/ArraysSupport" (some 0) with
  accessFlags := 33
  interfaces := #[]
  cf := some (fileOf pool12 21 #[] #[{ accessFlags := 2, nameIndex := 9, descriptorIndex := 19, attributes := #[] }] 33 16 #[] #[{ accessFlags := 24, nameIndex := 28, descriptorIndex := 29, attributes := #[] }, { accessFlags := 26, nameIndex := 38, descriptorIndex := 39, attributes := #[] }, { accessFlags := 25, nameIndex := 121, descriptorIndex := 25, attributes := #[] }, { accessFlags := 25, nameIndex := 131, descriptorIndex := 25, attributes := #[] }, { accessFlags := 25, nameIndex := 137, descriptorIndex := 25, attributes := #[] }, { accessFlags := 25, nameIndex := 143, descriptorIndex := 25, attributes := #[] }, { accessFlags := 25, nameIndex := 53, descriptorIndex := 25, attributes := #[] }, { accessFlags := 25, nameIndex := 24, descriptorIndex := 25, attributes := #[] }, { accessFlags := 25, nameIndex := 162, descriptorIndex := 25, attributes := #[] }, { accessFlags := 25, nameIndex := 187, descriptorIndex := 25, attributes := #[] }, { accessFlags := 26, nameIndex := 48, descriptorIndex := 25, attributes := #[] }, { accessFlags := 25, nameIndex := 277, descriptorIndex := 25, attributes := #[] }, { accessFlags := 25, nameIndex := 280, descriptorIndex := 25, attributes := #[] }, { accessFlags := 25, nameIndex := 282, descriptorIndex := 25, attributes := #[] }, { accessFlags := 25, nameIndex := 284, descriptorIndex := 25, attributes := #[] }, { accessFlags := 25, nameIndex := 286, descriptorIndex := 25, attributes := #[] }, { accessFlags := 25, nameIndex := 288, descriptorIndex := 25, attributes := #[] }, { accessFlags := 25, nameIndex := 290, descriptorIndex := 25, attributes := #[] }, { accessFlags := 25, nameIndex := 292, descriptorIndex := 25, attributes := #[] }, { accessFlags := 26, nameIndex := 108, descriptorIndex := 109, attributes := #[] }, { accessFlags := 25, nameIndex := 294, descriptorIndex := 25, attributes := #[] }])
  fields := #[{ name := "U", type := (.object "jdk/internal/misc/Unsafe"), accessFlags := 24, slot := 0, constantValue := 0 }, { name := "BIG_ENDIAN", type := .boolean, accessFlags := 26, slot := 1, constantValue := 0 }, { name := "LOG2_ARRAY_BOOLEAN_INDEX_SCALE", type := .int, accessFlags := 25, slot := 2, constantValue := 0 }, { name := "LOG2_ARRAY_BYTE_INDEX_SCALE", type := .int, accessFlags := 25, slot := 3, constantValue := 0 }, { name := "LOG2_ARRAY_CHAR_INDEX_SCALE", type := .int, accessFlags := 25, slot := 4, constantValue := 0 }, { name := "LOG2_ARRAY_SHORT_INDEX_SCALE", type := .int, accessFlags := 25, slot := 5, constantValue := 0 }, { name := "LOG2_ARRAY_INT_INDEX_SCALE", type := .int, accessFlags := 25, slot := 6, constantValue := 0 }, { name := "LOG2_ARRAY_LONG_INDEX_SCALE", type := .int, accessFlags := 25, slot := 7, constantValue := 0 }, { name := "LOG2_ARRAY_FLOAT_INDEX_SCALE", type := .int, accessFlags := 25, slot := 8, constantValue := 0 }, { name := "LOG2_ARRAY_DOUBLE_INDEX_SCALE", type := .int, accessFlags := 25, slot := 9, constantValue := 0 }, { name := "LOG2_BYTE_BIT_SIZE", type := .int, accessFlags := 26, slot := 10, constantValue := 0 }, { name := "T_BOOLEAN", type := .int, accessFlags := 25, slot := 11, constantValue := 0 }, { name := "T_CHAR", type := .int, accessFlags := 25, slot := 12, constantValue := 0 }, { name := "T_FLOAT", type := .int, accessFlags := 25, slot := 13, constantValue := 0 }, { name := "T_DOUBLE", type := .int, accessFlags := 25, slot := 14, constantValue := 0 }, { name := "T_BYTE", type := .int, accessFlags := 25, slot := 15, constantValue := 0 }, { name := "T_SHORT", type := .int, accessFlags := 25, slot := 16, constantValue := 0 }, { name := "T_INT", type := .int, accessFlags := 25, slot := 17, constantValue := 0 }, { name := "T_LONG", type := .int, accessFlags := 25, slot := 18, constantValue := 0 }, { name := "JLA", type := (.object "jdk/internal/access/JavaLangAccess"), accessFlags := 26, slot := 19, constantValue := 0 }, { name := "SOFT_MAX_ARRAY_LENGTH", type := .int, accessFlags := 25, slot := 20, constantValue := 0 }]
  methods := #[k12m0]
  instanceTypes := #[]
  staticTypes := #[(.object "jdk/internal/misc/Unsafe"), .boolean, .int, .int, .int, .int, .int, .int, .int, .int, .int, .int, .int, .int, .int, .int, .int, .int, .int, (.object "jdk/internal/access/JavaLangAccess"), .int]
  resolved := Array.replicate 378 none
  statics := none }

def pool13 : Array CpInfo := pool [(1, u "java/lang/Cloneable"), (0, .class_ 1), (0, u "java/lang/Object"), (0, .class_ 3)] 3

/-- java/lang/Cloneable -/
def k13 : Class := { plain "java/lang/Cloneable" (some 0) with
  accessFlags := 1537
  interfaces := #[]
  cf := some (fileOf pool13 2 #[] #[] 1537 4 #[] #[])
  fields := #[]
  methods := #[]
  instanceTypes := #[]
  staticTypes := #[]
  resolved := Array.replicate 8 none
  statics := none }

/-- the primitive byte -/
def k14 : Class := { plain "byte" none with kind := .primitive 'B', accessFlags := 0x411 }
/-- [B -/
def k15 : Class := { plain "[B" (some 0) with kind := .array 14 .byte, interfaces := #[13, 2], accessFlags := 1041 }

/-- the primitive char -/
def k16 : Class := { plain "char" none with kind := .primitive 'C', accessFlags := 0x411 }
/-- [C -/
def k17 : Class := { plain "[C" (some 0) with kind := .array 16 .char, interfaces := #[13, 2], accessFlags := 1041 }

/-- the primitive int -/
def k18 : Class := { plain "int" none with kind := .primitive 'I', accessFlags := 0x411 }
/-- [I -/
def k19 : Class := { plain "[I" (some 0) with kind := .array 18 .int, interfaces := #[13, 2], accessFlags := 1041 }

def heap : Heap := #[{ cls := 7, slots := #[.long 0, .int 1, .null, .int 0, .null, .int 0, .int 0], vm := .statics 7 },
  { cls := 8, slots := #[.int 0, .int 8, .int 0, .int 1], vm := .statics 8 },
  { cls := 10, slots := #[.null, .null, .null], vm := .statics 10 }]
def classes : Array Class := #[k0, k1, k2, k3, k4, k5, k6, k7, k8, k9, k10, k11, k12, k13, k14, k15, k16, k17, k18, k19]
def interned : List (Array UInt16 × Addr) := []
def slotsUsed : Nat := 14
def theMethod : MethodId := ⟨1, 5⟩
def args0 : Array Value := #[.long 5, .long 6, .long 7, .int 1, .int 2]
def aboutOver (below : List Frame) : State where
  vm := { classes := classes, interned := interned.toArray }
  heap := heap
  slotsUsed := slotsUsed
  threads := #[{ frames := .invoking theMethod args0 :: below }]
def below0 : List Frame := [.native { method := ⟨0, 0⟩, args := #[] }]
def about1 : State := aboutOver below0
def p0 : Program := .bare "" "" ""
def e0 : Env := launch0.env 0 0 0
theorem w_frames : about1.frames = Frame.invoking theMethod args0 :: below0 := rfl
set_option maxRecDepth 65536 in
theorem w_args : argsFit about1.vm theMethod args0 = true := by decide +kernel
set_option maxRecDepth 65536 in
theorem w_heap : heapFits about1 = true := by decide +kernel
set_option maxRecDepth 65536 in
theorem w_runnable : about1.curStatus? = some .runnable := by decide +kernel
set_option maxRecDepth 65536 in
theorem w_alone : about1.alone = true := by decide +kernel
set_option maxRecDepth 65536 in
theorem w_named : about1.methodNamed? x = some theMethod := by decide +kernel
set_option maxRecDepth 65536 in
theorem w_hears : about1.hears theMethod below0 = true := by decide +kernel
set_option maxRecDepth 65536 in
theorem w_ripe : about1.ripe theMethod args0 below0 = true := by decide +kernel
theorem w_running : about1.status = .running := rfl
set_option maxRecDepth 65536 in
theorem w_room : about1.hasRoom e0.platform room_1 = true :=
  launch0.hasRoom_least _ room_1 (by decide +kernel) (by decide +kernel) (by decide +kernel) (by decide +kernel) (by decide +kernel) (by decide +kernel)
theorem allAtoms_all (ts : List Jvm.Cond) (a : Array Jvm.Value) (st : Jvm.State) : (allAtoms ts).before a st = ts.all (fun c => c.before a st) := by
  induction ts with
  | nil => rfl
  | cons c t ih =>
    show (Jvm.Cond.and c (allAtoms t)).before a st = _
    rw [Jvm.Cond.before_and, ih, List.all_cons]
def words1 : List Jvm.Cond := Jvm.Cond.code x code maxLocals ret :: tables_1
/-- a 'code' word, met by the world's own term for the bytes: nothing is compared byte by byte -/
theorem code_word {y : MethodName} {bytes : ByteArray} {mx : Nat} {rt : Option FieldType} {a : Array Value} {s : State} {m : MethodId} {meth : Method} {c : Code} (h1 : s.methodNamed? y = some m) (h2 : s.vm.method? m = some meth) (h3 : meth.code = some c) (h4 : c.code = bytes)
    (h5 : (c.maxLocals == mx && c.exceptionTable.isEmpty && decide (c.maxStack ≤ mostOperands) && decide (meth.sig.returnType = rt) && !meth.locks && decide (parseMethodDescriptor y.desc = some meth.sig)) = true) : (Jvm.Cond.code y bytes mx rt).before a s = true := by
  simp only [Bool.and_eq_true, beq_iff_eq, Bool.not_eq_true', decide_eq_true_eq] at h5
  obtain ⟨⟨⟨⟨⟨g1, g2⟩, g3⟩, g4⟩, g5⟩, g6⟩ := h5
  simp [Cond.before, Cond.holds, Cond.value, h1, h2, h3, h4, g1, g2, g3, g4, g5, g6]
def isCode : Jvm.Cond → Bool
  | .code _ _ _ _ => true
  | _ => false
theorem all_split {L : List Jvm.Cond} {P : Jvm.Cond → Bool} (h1 : L.all (fun c => isCode c || P c) = true) (h2 : ∀ c ∈ L.filter isCode, P c = true) : L.all P = true := by
  refine List.all_eq_true.mpr fun c hc => ?_
  have h := List.all_eq_true.mp h1 c hc
  rcases Bool.eq_false_or_eq_true (isCode c) with hi | hi
  · exact h2 c (List.mem_filter.mpr ⟨hc, hi⟩)
  · simpa [hi] using h
set_option maxRecDepth 65536 in
theorem w_c0 : (Jvm.Cond.code x code maxLocals ret).before args0 about1 = true := code_word (m := ⟨1, 5⟩) (meth := k1m5) (c := k1c5) (by decide +kernel) rfl rfl rfl (by decide +kernel)
set_option maxRecDepth 65536 in
theorem w_c1 : (Jvm.Cond.code ({ cls := "com/example/sigyn/sigyn/DigitsReadPinLaw", name := "pick", desc := "(I)C" } : Jvm.MethodName) method_2_code (1 : Nat) (Option.some Jvm.ClassFile.FieldType.char)).before args0 about1 = true := code_word (m := ⟨1, 1⟩) (meth := k1m1) (c := k1c1) (by decide +kernel) rfl rfl rfl (by decide +kernel)
set_option maxRecDepth 65536 in
theorem w_c2 : (Jvm.Cond.code ({ cls := "java/lang/String", name := "<init>", desc := "([C)V" } : Jvm.MethodName) jdk_42_method_3_code (2 : Nat) (Option.none : Option Jvm.ClassFile.FieldType)).before args0 about1 = true := code_word (m := ⟨7, 1⟩) (meth := k7m1) (c := k7c1) (by decide +kernel) rfl rfl rfl (by decide +kernel)
set_option maxRecDepth 65536 in
theorem w_c3 : (Jvm.Cond.code ({ cls := "java/lang/String", name := "<init>", desc := "([CIILjava/lang/Void;)V" } : Jvm.MethodName) jdk_42_method_149_code (6 : Nat) (Option.none : Option Jvm.ClassFile.FieldType)).before args0 about1 = true := code_word (m := ⟨7, 3⟩) (meth := k7m3) (c := k7c3) (by decide +kernel) rfl rfl rfl (by decide +kernel)
set_option maxRecDepth 65536 in
theorem w_c4 : (Jvm.Cond.code ({ cls := "java/lang/Object", name := "<init>", desc := "()V" } : Jvm.MethodName) object_method_1_code (1 : Nat) (Option.none : Option Jvm.ClassFile.FieldType)).before args0 about1 = true := code_word (m := ⟨0, 0⟩) (meth := k0m0) (c := k0c0) (by decide +kernel) rfl rfl rfl (by decide +kernel)
set_option maxRecDepth 65536 in
theorem w_c5 : (Jvm.Cond.code ({ cls := "java/lang/StringUTF16", name := "compress", desc := "([CII)[B" } : Jvm.MethodName) jdk_52_method_16_code (6 : Nat) (Option.some (Jvm.ClassFile.FieldType.array Jvm.ClassFile.FieldType.byte))).before args0 about1 = true := code_word (m := ⟨8, 8⟩) (meth := k8m8) (c := k8c8) (by decide +kernel) rfl rfl rfl (by decide +kernel)
set_option maxRecDepth 65536 in
theorem w_c6 : (Jvm.Cond.code ({ cls := "java/lang/StringUTF16", name := "compress", desc := "([CI[BII)I" } : Jvm.MethodName) jdk_52_method_21_code (7 : Nat) (Option.some Jvm.ClassFile.FieldType.int)).before args0 about1 = true := code_word (m := ⟨8, 9⟩) (meth := k8m9) (c := k8c9) (by decide +kernel) rfl rfl rfl (by decide +kernel)
set_option maxRecDepth 65536 in
theorem w_c7 : (Jvm.Cond.code ({ cls := "java/lang/StringUTF16", name := "toBytes", desc := "([CII)[B" } : Jvm.MethodName) jdk_52_method_14_code (5 : Nat) (Option.some (Jvm.ClassFile.FieldType.array Jvm.ClassFile.FieldType.byte))).before args0 about1 = true := code_word (m := ⟨8, 6⟩) (meth := k8m6) (c := k8c6) (by decide +kernel) rfl rfl rfl (by decide +kernel)
set_option maxRecDepth 65536 in
theorem w_c8 : (Jvm.Cond.code ({ cls := "java/lang/StringUTF16", name := "newBytesFor", desc := "(I)[B" } : Jvm.MethodName) jdk_52_method_2_code (1 : Nat) (Option.some (Jvm.ClassFile.FieldType.array Jvm.ClassFile.FieldType.byte))).before args0 about1 = true := code_word (m := ⟨8, 1⟩) (meth := k8m1) (c := k8c1) (by decide +kernel) rfl rfl rfl (by decide +kernel)
set_option maxRecDepth 65536 in
theorem w_c9 : (Jvm.Cond.code ({ cls := "java/lang/StringUTF16", name := "newBytesLength", desc := "(I)I" } : Jvm.MethodName) jdk_52_method_3_code (1 : Nat) (Option.some Jvm.ClassFile.FieldType.int)).before args0 about1 = true := code_word (m := ⟨8, 2⟩) (meth := k8m2) (c := k8c2) (by decide +kernel) rfl rfl rfl (by decide +kernel)
set_option maxRecDepth 65536 in
theorem w_c10 : (Jvm.Cond.code ({ cls := "java/lang/StringUTF16", name := "putChar", desc := "([BII)V" } : Jvm.MethodName) jdk_52_method_4_code (3 : Nat) (Option.none : Option Jvm.ClassFile.FieldType)).before args0 about1 = true := code_word (m := ⟨8, 3⟩) (meth := k8m3) (c := k8c3) (by decide +kernel) rfl rfl rfl (by decide +kernel)
set_option maxRecDepth 65536 in
theorem w_c11 : (Jvm.Cond.code ({ cls := "java/lang/StringUTF16", name := "getChar", desc := "([BI)C" } : Jvm.MethodName) jdk_52_method_5_code (2 : Nat) (Option.some Jvm.ClassFile.FieldType.char)).before args0 about1 = true := code_word (m := ⟨8, 4⟩) (meth := k8m4) (c := k8c4) (by decide +kernel) rfl rfl rfl (by decide +kernel)
set_option maxRecDepth 65536 in
theorem w_c12 : (Jvm.Cond.code ({ cls := "java/lang/StringUTF16", name := "coderFromArrayLen", desc := "([BI)B" } : Jvm.MethodName) jdk_52_method_15_code (2 : Nat) (Option.some Jvm.ClassFile.FieldType.byte)).before args0 about1 = true := code_word (m := ⟨8, 7⟩) (meth := k8m7) (c := k8c7) (by decide +kernel) rfl rfl rfl (by decide +kernel)
set_option maxRecDepth 65536 in
theorem w_c13 : (Jvm.Cond.code ({ cls := "com/example/sigyn/sigyn/Digits", name := "read", desc := "(Ljava/lang/String;II)J" } : Jvm.MethodName) prog_1_method_2_code (7 : Nat) (Option.some Jvm.ClassFile.FieldType.long)).before args0 about1 = true := code_word (m := ⟨9, 1⟩) (meth := k9m1) (c := k9c1) (by decide +kernel) rfl rfl rfl (by decide +kernel)
set_option maxRecDepth 65536 in
theorem w_c14 : (Jvm.Cond.code ({ cls := "java/lang/String", name := "charAt", desc := "(I)C" } : Jvm.MethodName) jdk_42_method_56_code (2 : Nat) (Option.some Jvm.ClassFile.FieldType.char)).before args0 about1 = true := code_word (m := ⟨7, 2⟩) (meth := k7m2) (c := k7c2) (by decide +kernel) rfl rfl rfl (by decide +kernel)
set_option maxRecDepth 65536 in
theorem w_c15 : (Jvm.Cond.code ({ cls := "java/lang/String", name := "isLatin1", desc := "()Z" } : Jvm.MethodName) jdk_42_method_154_code (1 : Nat) (Option.some Jvm.ClassFile.FieldType.boolean)).before args0 about1 = true := code_word (m := ⟨7, 4⟩) (meth := k7m4) (c := k7c4) (by decide +kernel) rfl rfl rfl (by decide +kernel)
set_option maxRecDepth 65536 in
theorem w_c16 : (Jvm.Cond.code ({ cls := "java/lang/StringUTF16", name := "charAt", desc := "([BI)C" } : Jvm.MethodName) jdk_52_method_83_code (2 : Nat) (Option.some Jvm.ClassFile.FieldType.char)).before args0 about1 = true := code_word (m := ⟨8, 10⟩) (meth := k8m10) (c := k8c10) (by decide +kernel) rfl rfl rfl (by decide +kernel)
set_option maxRecDepth 65536 in
theorem w_c17 : (Jvm.Cond.code ({ cls := "java/lang/StringUTF16", name := "checkIndex", desc := "(I[B)V" } : Jvm.MethodName) jdk_52_method_91_code (2 : Nat) (Option.none : Option Jvm.ClassFile.FieldType)).before args0 about1 = true := code_word (m := ⟨8, 11⟩) (meth := k8m11) (c := k8c11) (by decide +kernel) rfl rfl rfl (by decide +kernel)
set_option maxRecDepth 65536 in
theorem w_c18 : (Jvm.Cond.code ({ cls := "java/lang/StringUTF16", name := "length", desc := "([B)I" } : Jvm.MethodName) jdk_52_method_6_code (1 : Nat) (Option.some Jvm.ClassFile.FieldType.int)).before args0 about1 = true := code_word (m := ⟨8, 5⟩) (meth := k8m5) (c := k8c5) (by decide +kernel) rfl rfl rfl (by decide +kernel)
set_option maxRecDepth 65536 in
theorem w_c19 : (Jvm.Cond.code ({ cls := "java/lang/String", name := "checkIndex", desc := "(II)V" } : Jvm.MethodName) jdk_42_method_155_code (2 : Nat) (Option.none : Option Jvm.ClassFile.FieldType)).before args0 about1 = true := code_word (m := ⟨7, 5⟩) (meth := k7m5) (c := k7c5) (by decide +kernel) rfl rfl rfl (by decide +kernel)
set_option maxRecDepth 65536 in
theorem w_c20 : (Jvm.Cond.code ({ cls := "jdk/internal/util/Preconditions", name := "checkIndex", desc := "(IILjava/util/function/BiFunction;)I" } : Jvm.MethodName) jdk_41_method_11_code (3 : Nat) (Option.some Jvm.ClassFile.FieldType.int)).before args0 about1 = true := code_word (m := ⟨10, 1⟩) (meth := k10m1) (c := k10c1) (by decide +kernel) rfl rfl rfl (by decide +kernel)
set_option maxRecDepth 65536 in
theorem w_c21 : (Jvm.Cond.code ({ cls := "com/example/sigyn/sigyn/DigitsReadPinLaw", name := "term", desc := "(CIII)J" } : Jvm.MethodName) method_5_code (5 : Nat) (Option.some Jvm.ClassFile.FieldType.long)).before args0 about1 = true := code_word (m := ⟨1, 4⟩) (meth := k1m4) (c := k1c4) (by decide +kernel) rfl rfl rfl (by decide +kernel)
set_option maxRecDepth 65536 in
theorem w_c22 : (Jvm.Cond.code ({ cls := "com/example/sigyn/sigyn/DigitsReadPinLaw", name := "digitValue", desc := "(C)I" } : Jvm.MethodName) method_3_code (1 : Nat) (Option.some Jvm.ClassFile.FieldType.int)).before args0 about1 = true := code_word (m := ⟨1, 2⟩) (meth := k1m2) (c := k1c2) (by decide +kernel) rfl rfl rfl (by decide +kernel)
set_option maxRecDepth 65536 in
theorem w_c23 : (Jvm.Cond.code ({ cls := "com/example/sigyn/sigyn/DigitsReadPinLaw", name := "pow10", desc := "(I)J" } : Jvm.MethodName) method_4_code (1 : Nat) (Option.some Jvm.ClassFile.FieldType.long)).before args0 about1 = true := code_word (m := ⟨1, 3⟩) (meth := k1m3) (c := k1c3) (by decide +kernel) rfl rfl rfl (by decide +kernel)
set_option maxRecDepth 65536 in
theorem w_c24 : (Jvm.Cond.code ({ cls := "java/lang/StringLatin1", name := "charAt", desc := "([BI)C" } : Jvm.MethodName) jdk_43_method_2_code (2 : Nat) (Option.some Jvm.ClassFile.FieldType.char)).before args0 about1 = true := code_word (m := ⟨11, 1⟩) (meth := k11m1) (c := k11c1) (by decide +kernel) rfl rfl rfl (by decide +kernel)
def codes1 : List Jvm.Cond := [Jvm.Cond.code x code maxLocals ret, Jvm.Cond.code ({ cls := "com/example/sigyn/sigyn/DigitsReadPinLaw", name := "pick", desc := "(I)C" } : Jvm.MethodName) method_2_code (1 : Nat) (Option.some Jvm.ClassFile.FieldType.char), Jvm.Cond.code ({ cls := "java/lang/String", name := "<init>", desc := "([C)V" } : Jvm.MethodName) jdk_42_method_3_code (2 : Nat) (Option.none : Option Jvm.ClassFile.FieldType), Jvm.Cond.code ({ cls := "java/lang/String", name := "<init>", desc := "([CIILjava/lang/Void;)V" } : Jvm.MethodName) jdk_42_method_149_code (6 : Nat) (Option.none : Option Jvm.ClassFile.FieldType), Jvm.Cond.code ({ cls := "java/lang/Object", name := "<init>", desc := "()V" } : Jvm.MethodName) object_method_1_code (1 : Nat) (Option.none : Option Jvm.ClassFile.FieldType), Jvm.Cond.code ({ cls := "java/lang/StringUTF16", name := "compress", desc := "([CII)[B" } : Jvm.MethodName) jdk_52_method_16_code (6 : Nat) (Option.some (Jvm.ClassFile.FieldType.array Jvm.ClassFile.FieldType.byte)), Jvm.Cond.code ({ cls := "java/lang/StringUTF16", name := "compress", desc := "([CI[BII)I" } : Jvm.MethodName) jdk_52_method_21_code (7 : Nat) (Option.some Jvm.ClassFile.FieldType.int), Jvm.Cond.code ({ cls := "java/lang/StringUTF16", name := "toBytes", desc := "([CII)[B" } : Jvm.MethodName) jdk_52_method_14_code (5 : Nat) (Option.some (Jvm.ClassFile.FieldType.array Jvm.ClassFile.FieldType.byte)), Jvm.Cond.code ({ cls := "java/lang/StringUTF16", name := "newBytesFor", desc := "(I)[B" } : Jvm.MethodName) jdk_52_method_2_code (1 : Nat) (Option.some (Jvm.ClassFile.FieldType.array Jvm.ClassFile.FieldType.byte)), Jvm.Cond.code ({ cls := "java/lang/StringUTF16", name := "newBytesLength", desc := "(I)I" } : Jvm.MethodName) jdk_52_method_3_code (1 : Nat) (Option.some Jvm.ClassFile.FieldType.int), Jvm.Cond.code ({ cls := "java/lang/StringUTF16", name := "putChar", desc := "([BII)V" } : Jvm.MethodName) jdk_52_method_4_code (3 : Nat) (Option.none : Option Jvm.ClassFile.FieldType), Jvm.Cond.code ({ cls := "java/lang/StringUTF16", name := "getChar", desc := "([BI)C" } : Jvm.MethodName) jdk_52_method_5_code (2 : Nat) (Option.some Jvm.ClassFile.FieldType.char), Jvm.Cond.code ({ cls := "java/lang/StringUTF16", name := "coderFromArrayLen", desc := "([BI)B" } : Jvm.MethodName) jdk_52_method_15_code (2 : Nat) (Option.some Jvm.ClassFile.FieldType.byte), Jvm.Cond.code ({ cls := "com/example/sigyn/sigyn/Digits", name := "read", desc := "(Ljava/lang/String;II)J" } : Jvm.MethodName) prog_1_method_2_code (7 : Nat) (Option.some Jvm.ClassFile.FieldType.long), Jvm.Cond.code ({ cls := "java/lang/String", name := "charAt", desc := "(I)C" } : Jvm.MethodName) jdk_42_method_56_code (2 : Nat) (Option.some Jvm.ClassFile.FieldType.char), Jvm.Cond.code ({ cls := "java/lang/String", name := "isLatin1", desc := "()Z" } : Jvm.MethodName) jdk_42_method_154_code (1 : Nat) (Option.some Jvm.ClassFile.FieldType.boolean), Jvm.Cond.code ({ cls := "java/lang/StringUTF16", name := "charAt", desc := "([BI)C" } : Jvm.MethodName) jdk_52_method_83_code (2 : Nat) (Option.some Jvm.ClassFile.FieldType.char), Jvm.Cond.code ({ cls := "java/lang/StringUTF16", name := "checkIndex", desc := "(I[B)V" } : Jvm.MethodName) jdk_52_method_91_code (2 : Nat) (Option.none : Option Jvm.ClassFile.FieldType), Jvm.Cond.code ({ cls := "java/lang/StringUTF16", name := "length", desc := "([B)I" } : Jvm.MethodName) jdk_52_method_6_code (1 : Nat) (Option.some Jvm.ClassFile.FieldType.int), Jvm.Cond.code ({ cls := "java/lang/String", name := "checkIndex", desc := "(II)V" } : Jvm.MethodName) jdk_42_method_155_code (2 : Nat) (Option.none : Option Jvm.ClassFile.FieldType), Jvm.Cond.code ({ cls := "jdk/internal/util/Preconditions", name := "checkIndex", desc := "(IILjava/util/function/BiFunction;)I" } : Jvm.MethodName) jdk_41_method_11_code (3 : Nat) (Option.some Jvm.ClassFile.FieldType.int), Jvm.Cond.code ({ cls := "com/example/sigyn/sigyn/DigitsReadPinLaw", name := "term", desc := "(CIII)J" } : Jvm.MethodName) method_5_code (5 : Nat) (Option.some Jvm.ClassFile.FieldType.long), Jvm.Cond.code ({ cls := "com/example/sigyn/sigyn/DigitsReadPinLaw", name := "digitValue", desc := "(C)I" } : Jvm.MethodName) method_3_code (1 : Nat) (Option.some Jvm.ClassFile.FieldType.int), Jvm.Cond.code ({ cls := "com/example/sigyn/sigyn/DigitsReadPinLaw", name := "pow10", desc := "(I)J" } : Jvm.MethodName) method_4_code (1 : Nat) (Option.some Jvm.ClassFile.FieldType.long), Jvm.Cond.code ({ cls := "java/lang/StringLatin1", name := "charAt", desc := "([BI)C" } : Jvm.MethodName) jdk_43_method_2_code (2 : Nat) (Option.some Jvm.ClassFile.FieldType.char)]
set_option maxRecDepth 65536 in
theorem codes_eq : words1.filter isCode = codes1 := rfl
theorem w_codes : ∀ c ∈ words1.filter isCode, c.before args0 about1 = true := by
  rw [codes_eq]
  intro c hc
  simp only [codes1, List.mem_cons, List.not_mem_nil, or_false] at hc
  rcases hc with rfl | rfl | rfl | rfl | rfl | rfl | rfl | rfl | rfl | rfl | rfl | rfl | rfl | rfl | rfl | rfl | rfl | rfl | rfl | rfl | rfl | rfl | rfl | rfl | rfl
  · exact w_c0
  · exact w_c1
  · exact w_c2
  · exact w_c3
  · exact w_c4
  · exact w_c5
  · exact w_c6
  · exact w_c7
  · exact w_c8
  · exact w_c9
  · exact w_c10
  · exact w_c11
  · exact w_c12
  · exact w_c13
  · exact w_c14
  · exact w_c15
  · exact w_c16
  · exact w_c17
  · exact w_c18
  · exact w_c19
  · exact w_c20
  · exact w_c21
  · exact w_c22
  · exact w_c23
  · exact w_c24
set_option maxRecDepth 65536 in
theorem w_t1 : (words1.take 24).all (fun c => isCode c || c.before args0 about1) = true := by decide +kernel
set_option maxRecDepth 65536 in
theorem w_t2 : ((words1.drop 24).take 24).all (fun c => isCode c || c.before args0 about1) = true := by decide +kernel
set_option maxRecDepth 65536 in
theorem w_t3 : (((words1.drop 24).drop 24).take 24).all (fun c => isCode c || c.before args0 about1) = true := by decide +kernel
set_option maxRecDepth 65536 in
theorem w_t4 : ((((words1.drop 24).drop 24).drop 24).take 24).all (fun c => isCode c || c.before args0 about1) = true := by decide +kernel
set_option maxRecDepth 65536 in
theorem w_t5 : ((((words1.drop 24).drop 24).drop 24).drop 24).all (fun c => isCode c || c.before args0 about1) = true := by decide +kernel
theorem w_tables : (allAtoms (Jvm.Cond.code x code maxLocals ret :: tables_1)).before args0 about1 = true := by
  rw [allAtoms_all]
  show words1.all (fun c => c.before args0 about1) = true
  refine all_split ?_ w_codes
  rw [← List.take_append_drop 24 words1, List.all_append, w_t1, ← List.take_append_drop 24 (words1.drop 24), List.all_append, w_t2, ← List.take_append_drop 24 ((words1.drop 24).drop 24), List.all_append, w_t3, ← List.take_append_drop 24 (((words1.drop 24).drop 24).drop 24), List.all_append, w_t4, w_t5]
  rfl
set_option maxRecDepth 65536 in
theorem w_rest : rest_1_c.before args0 about1 = true := by decide +kernel
set_option maxRecDepth 65536 in
theorem w_case : (Jvm.Cond.and given_1 narrow_1).before args0 about1 = true := by decide +kernel
theorem w_applies : (headSpec (Jvm.Cond.code x code maxLocals ret :: tables_1) room_1).applies x e0.platform about1 = true :=
  (Spec.applies_iff w_frames).mpr ⟨w_running, w_runnable, w_alone, w_named, w_hears, w_ripe, w_room, w_tables⟩
theorem atStart : AtStart classFile x code maxLocals ret World_1 tables_1 room_1 Calls_1 rest_1 Pre_1 launch0 p0 e0 about1 theMethod args0 below0 :=
  ⟨lists_1, trivial, launch0.admits_env _ _ _, launch0.least_env, fairChoices_fair.cas, fairChoices_fair.clock, w_frames, w_args, w_heap, w_applies, trivial, w_rest, w_case⟩
end start1
theorem witness_1 : WitnessClaimed_1 := ⟨start1.p0, start1.e0, start1.about1, start1.theMethod, start1.args0, start1.below0, start1.atStart⟩
end Jvm.Pilot.@@N@@
