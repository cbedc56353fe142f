import JvmDerived
import JvmDerived.Pilot.@@N@@Statement
import JvmDerived.Pilot.@@N@@Code
set_option linter.unusedVariables false
set_option linter.unusedSimpArgs false
namespace Jvm.Own
open Jvm Jvm.ClassFile Sem Op Lib Jvm.Free Jvm.Stand Jvm.LawKit Jvm.RoadKit Bundle
section Base
variable {p : Program} {l : Launch} {e : Env} {R : Room} {s : State} {m : MethodId} {args : Array Value} {below : List Frame} {meth : Method} {c : Code} {T : State} {locs : List Loc} {cells slots : Nat} {Z : State} {a0 : Array Value} {h : Heap}
/-- from t the run ends, and its end is as Qf says -/
def Go (p : Program) (e : Env) (below : List Frame) (Qf : Outcome → State → Prop) (t : State) : Prop :=
  ∃ s₂ o, Steps p.tables e below t s₂ ∧ s₂.status = .running ∧ Ended s₂ below o ∧ Qf o s₂
theorem Go.step {Qf : Outcome → State → Prop} {t t' : State} (k : ∀ u, Steps p.tables e below t' u → Steps p.tables e below t u) (h : Go p e below Qf t') : Go p e below Qf t := by
  obtain ⟨s₂, o, h1, h2⟩ := h
  exact ⟨s₂, o, k _ h1, h2⟩
theorem own_join {Qf : Outcome → State → Prop} {t t' : State} (h : Go p e below Qf t → Go p e below Qf t') (k : Go p e below Qf t) : Go p e below Qf t' := h k
theorem own_joinA {α : Type} {P : α → Prop} {Qf : Outcome → State → Prop} {t : α → State} {t' : State} (h : (∀ v, P v → Go p e below Qf (t v)) → Go p e below Qf t') (k : ∀ v, P v → Go p e below Qf (t v)) : Go p e below Qf t' := h k
theorem own_top {Qf : Outcome → State → Prop} {pc : Nat} {Ls : Array Slot} {rest : List Value} {a b : Value} (h : a = b) (k : Go p e below Qf (T.setTop (mkF m pc Ls (b :: rest)))) : Go p e below Qf (T.setTop (mkF m pc Ls (a :: rest))) := by subst h; exact k
/-- the end of a narrow walk -/
def QN (s : State) (rm : Room) (Q : Option Value → Heap → List Loc → Prop) (o : Outcome) (U' : State) : Prop := ∃ v L, o = .returned v ∧ Q v U'.heap L ∧ FrameEnd s o U' L rm.cells rm.slots
abbrev CN (l : Launch) (Z : State) (y : MethodName) (ws : List Jvm.Cond) (rm : Room) (as : Array Value) (h0 : Heap) (Q : Option Value → Heap → List Loc → Prop) : Prop :=
  MetFree l y (head1 ws rm) (fun a U => a = as ∧ Z.Warmed39 U.vm ∧ U.heap = h0) (fun _ _ _ _ _ => True) (fun _ U o U' => ∃ v L, o = .returned v ∧ Q v U'.heap L ∧ FrameEnd U o U' L rm.cells rm.slots)
theorem CN.of {y : MethodName} {bytes : ByteArray} {maxL : Nat} {ret : Option FieldType} {ws : List Jvm.Cond} {rm : Room} {as : Array Value} {h0 : Heap} {Q : Option Value → Heap → List Loc → Prop} {L0 : Array Slot}
    (hp : plainFor y = true) (ef : ∀ m, entryFrame m as maxL = mkF m 0 L0 [])
    (body : ∀ (p : Program) (e : Env) (s : State) (m : MethodId) (below : List Frame) (meth : Method) (c : Code) (s₁ : State), p.tables.exec = Jvm.exec → c.code = bytes → c.maxLocals = maxL → meth.sig.returnType = ret → meth.locks = false → Z.Warmed39 s.vm → s.vm.findClass y.cls = some m.cls → meth.name = y.name → Stand p l e rm s m as below meth c s₁ [] 0 0 → s₁.heap = h0 → Go p e below (QN s rm Q) (s₁.setTop (mkF m 0 L0 []))) :
    CN l Z y (Jvm.Cond.code y bytes maxL ret :: ws) rm as h0 Q := by
  refine MetFree.of_bodySF hp hisR ?_
  intro p e s m args below meth c s₁ Bd hml0 hP hK
  obtain ⟨rfl, hZ, hh⟩ := hP
  have q := body p e s m below meth c s₁ Bd.exec Bd.bytes hml0 Bd.returns Bd.notSynchronized hZ (findClass_of_methodNamed Bd.named) (name_of_methodNamed Bd.named Bd.method).1 (Stand.of_body Bd) (by rw [← hh, Bd.state]; rfl)
  rw [← ef m] at q
  exact q
theorem Go.ret {Q : Option Value → Heap → List Loc → Prop} {rm : Room} {t : State} (X : Stand p l e R s m args below meth c T locs cells slots) (hlk : meth.locks = false) (v : Option Value) (hv : meth.sig.returnType = none → v = none) (hc : cells ≤ rm.cells) (hs : slots ≤ rm.slots) (q : Q v T.heap locs)
    (st : ∀ fs, (∀ (f : JFrame) (acts : List Action), f.method = m → f.locked = none → f.entered = [] → (doReturn e (T.setTop f) acts v).1 = T.setFrames fs) → Steps p.tables e below t (T.setFrames fs)) : Go p e below (QN s rm Q) t := by
  obtain ⟨fs, hr, hrun, hended, hW, hsame⟩ := X.leave (v := v) hv hlk
  exact ⟨_, _, st fs hr, hrun, hended, v, locs, rfl, q, ⟨v, rfl⟩, hW, hsame.mono hc hs⟩
/-- a value comes back -/
theorem Go.retV {Q : Option Value → Heap → List Loc → Prop} {rm : Room} (X : Stand p l e R s m args below meth c T locs cells slots) (hx : p.tables.exec = Jvm.exec) (hlk : meth.locks = false) {pc : Nat} {Ls : Array Slot} {w : Value} {t : FieldType} {i : Instr} {rest : List Value} (hret : meth.sig.returnType = some t) (hn : narrow t w = w)
    (hi : (i = .ireturn ∧ (t = .int ∨ t = .boolean ∨ t = .byte ∨ t = .char ∨ t = .short) ∧ ∃ z, w = .int z) ∨ (i = .lreturn ∧ t = .long ∧ ∃ z, w = .long z) ∨ (i = .dreturn ∧ t = .double ∧ ∃ z, w = .double z) ∨ (i = .freturn ∧ t = .float ∧ ∃ z, w = .float z) ∨ (i = .areturn ∧ t.isReference = true ∧ w.isRef = true))
    (hd : decode c.code pc = .ok (i, 1)) (hc : cells ≤ rm.cells) (hs : slots ≤ rm.slots) (q : Q (some w) T.heap locs) : Go p e below (QN s rm Q) (T.setTop (mkF m pc Ls (w :: rest))) :=
  Go.ret X hlk (some w) (fun h => by rw [hret] at h; cases h) hc hs q fun fs hr => retOut X hx hret hn hi hd hr
/-- nothing comes back -/
theorem Go.ret0 {Q : Option Value → Heap → List Loc → Prop} {rm : Room} (X : Stand p l e R s m args below meth c T locs cells slots) (hx : p.tables.exec = Jvm.exec) (hlk : meth.locks = false) {pc : Nat} {Ls : Array Slot} (hret : meth.sig.returnType = none)
    (hd : decode c.code pc = .ok (.return_, 1)) (hc : cells ≤ rm.cells) (hs : slots ≤ rm.slots) (q : Q none T.heap locs) : Go p e below (QN s rm Q) (T.setTop (mkF m pc Ls [])) :=
  Go.ret X hlk none (fun _ => rfl) hc hs q fun fs hr => X.returnOut hx hret hd hr
/-- what pays a call -/
abbrev Pay (l : Launch) (R : Room) (p : Program) (e : Env) (below : List Frame) (s : State) (args : Array Value) (y : MethodName) (W : Nat) (as : Array Value) (h : Heap) (kc ks : Nat) (QQ : Option Value → Heap → List Loc → Prop) : Prop :=
  Back l R p e below s args y 3 W (fun P a => a = as ∧ P.U.heap = h ∧ P.cells + kc ≤ R.cells ∧ P.slots + ks ≤ R.slots) (fun P _ v B => ∃ L, QQ v B.U.heap L ∧ B.locs = P.locs ++ L ∧ B.cells = P.cells + kc ∧ B.slots = P.slots + ks)
theorem goS (X : Stand p l e R s m args below meth c T locs cells slots) (hx : p.tables.exec = Jvm.exec) (hZ : Z.Warmed39 s.vm) {own : String} {index : Nat} {y : MethodName} {bytes : ByteArray} {maxL : Nat} {ret : Option FieldType} (hown : s.vm.findClass own = some m.cls)
    (w1 : (Jvm.Cond.methodLink own index y).before a0 Z = true) (w2 : (Jvm.Cond.static y).before a0 Z = true) (w3 : (Jvm.Cond.initialized y.cls).before a0 Z = true) (w4 : (Jvm.Cond.code y bytes maxL ret).before a0 Z = true) (hy : y.cls ≠ "java/lang/invoke/MethodHandle" ∧ y.cls ≠ "java/lang/invoke/VarHandle")
    {W kc ks : Nat} {as : Array Value} {QQ : Option Value → Heap → List Loc → Prop} (K : Pay l R p e below s args y W as h kc ks QQ) (eT : T.heap = h) {g : JFrame} (hg : g.method = m) (hsize : g.locals.size = c.maxLocals) {argsL rest : List Value} (has : argsL.toArray = as)
    (hlen : ∀ sig, parseMethodDescriptor y.desc = some sig → argsL.length = sig.parameters.length) (hstack : g.stack = argsL.reverse ++ rest) (hW : 2 * g.monitorRoom + (rest.map fun v => v.category).sum ≤ W) (hd : decode c.code g.pc = .ok (.invokestatic index, 3)) (hc : cells + kc ≤ R.cells) (hs : slots + ks ≤ R.slots) :
    ∃ v T' L, Stand p l e R s m args below meth c T' (locs ++ L) (cells + kc) (slots + ks) ∧ QQ v T'.heap L ∧ ∀ u, Steps p.tables e below (T'.setTop { g with pc := g.pc + 3, stack := v.toList ++ rest }) u → Steps p.tables e below (T.setTop g) u := by
  obtain ⟨v, _, ⟨T', L', k', n'⟩, -, X', ⟨L, hQ, l1, y1, z1⟩, st⟩ := Jvm.LawKit.callS X hx hown (mvT hZ w1) (mvT hZ w2) (mvT hZ w3) (mvT hZ w4) hy K hg hsize hlen hstack hW hd (fun _ _ => ⟨has, eT, hc, hs⟩)
  try dsimp only [Pt.U, Pt.locs, Pt.cells, Pt.slots] at X' l1 y1 z1 st hQ
  subst l1 y1 z1
  exact ⟨v, T', L, X', hQ, st⟩
theorem goC (X : Stand p l e R s m args below meth c T locs cells slots) (hx : p.tables.exec = Jvm.exec) (hZ : Z.Warmed39 s.vm) {own : String} {index : Nat} {y : MethodName} {bytes : ByteArray} {maxL : Nat} (hown : s.vm.findClass own = some m.cls)
    (hy1 : y.name = "<init>") (w1 : (Jvm.Cond.methodLink own index y).before a0 Z = true) (w2 : (Jvm.Cond.instanceMethod y).before a0 Z = true) (w4 : (Jvm.Cond.code y bytes maxL none).before a0 Z = true) (hy : y.cls ≠ "java/lang/invoke/MethodHandle" ∧ y.cls ≠ "java/lang/invoke/VarHandle")
    {W kc ks : Nat} {as : Array Value} {QQ : Option Value → Heap → List Loc → Prop} (K : Pay l R p e below s args y W as h kc ks QQ) (eT : T.heap = h) {g : JFrame} (hg : g.method = m) (hsize : g.locals.size = c.maxLocals) {a : Addr} {argsL rest : List Value} (has : (.ref a :: argsL).toArray = as)
    (hlen : ∀ sig, parseMethodDescriptor y.desc = some sig → argsL.length = sig.parameters.length) (hstack : g.stack = argsL.reverse ++ .ref a :: rest) (hW : 2 * g.monitorRoom + (rest.map fun v => v.category).sum ≤ W) (hd : decode c.code g.pc = .ok (.invokespecial index, 3)) (hc : cells + kc ≤ R.cells) (hs : slots + ks ≤ R.slots) :
    ∃ v T' L, Stand p l e R s m args below meth c T' (locs ++ L) (cells + kc) (slots + ks) ∧ QQ v T'.heap L ∧ ∀ u, Steps p.tables e below (T'.setTop { g with pc := g.pc + 3, stack := v.toList ++ rest }) u → Steps p.tables e below (T.setTop g) u := by
  obtain ⟨v, _, ⟨T', L', k', n'⟩, -, X', ⟨L, hQ, l1, y1, z1⟩, st⟩ := X.specialBack hx hy1 hown (mvT hZ w1) (mvT hZ w2) (mvT hZ w4) hy K hg hsize (Steps.refl _) hlen hstack hW hd (fun _ _ => ⟨has, eT, hc, hs⟩)
  try dsimp only [Pt.U, Pt.locs, Pt.cells, Pt.slots] at X' l1 y1 z1 st hQ
  subst l1 y1 z1
  exact ⟨v, T', L, X', hQ, fun u k => st.trans k⟩
theorem goV (X : Stand p l e R s m args below meth c T locs cells slots) (hx : p.tables.exec = Jvm.exec) (hZ : Z.Warmed39 s.vm) {own C : String} {index : Nat} {y z : MethodName} (hown : s.vm.findClass own = some m.cls)
    (w1 : (Jvm.Cond.methodLink own index y).before a0 Z = true) (w2 : (Jvm.Cond.declares y).before a0 Z = true) (hnf : NotFace s y) (w3 : (Jvm.Cond.selects C y z).before a0 Z = true) (w4 : (Jvm.Cond.instanceMethod z).before a0 Z = true) (hy : y.cls ≠ "java/lang/invoke/MethodHandle" ∧ y.cls ≠ "java/lang/invoke/VarHandle")
    {W kc ks : Nat} {as : Array Value} {QQ : Option Value → Heap → List Loc → Prop} (K : Pay l R p e below s args z W as h kc ks QQ) (eT : T.heap = h) {a : Addr} (E : Exa Z h a C) {g : JFrame} (hg : g.method = m) (hsize : g.locals.size = c.maxLocals) {argsL rest : List Value} (has : (.ref a :: argsL).toArray = as)
    (hlen : ∀ sig, parseMethodDescriptor y.desc = some sig → argsL.length = sig.parameters.length) (hstack : g.stack = argsL.reverse ++ .ref a :: rest) (hW : 2 * g.monitorRoom + (rest.map fun v => v.category).sum ≤ W) (hd : decode c.code g.pc = .ok (.invokevirtual index, 3)) (hc : cells + kc ≤ R.cells) (hs : slots + ks ≤ R.slots) :
    ∃ v T' L, Stand p l e R s m args below meth c T' (locs ++ L) (cells + kc) (slots + ks) ∧ QQ v T'.heap L ∧ ∀ u, Steps p.tables e below (T'.setTop { g with pc := g.pc + 3, stack := v.toList ++ rest }) u → Steps p.tables e below (T.setTop g) u := by
  obtain ⟨cB, kB, q1, q2, q3⟩ := isOf hZ eT E
  obtain ⟨v, _, ⟨T', L', k', n'⟩, -, X', ⟨L, hQ, l1, y1, z1⟩, st⟩ := X.virtualBack hx hown (mvT hZ w1) (mvT hZ w2) hnf (mvT hZ w3) (mvT hZ w4) hy K q1 q3 hg hsize (Steps.refl _) hlen hstack hW hd (fun _ _ => ⟨has, eT, hc, hs⟩)
  try dsimp only [Pt.U, Pt.locs, Pt.cells, Pt.slots] at X' l1 y1 z1 st hQ
  subst l1 y1 z1
  exact ⟨v, T', L, X', hQ, fun u k => st.trans k⟩
/-- .. whose named class does not declare it -/
theorem goU (X : Stand p l e R s m args below meth c T locs cells slots) (hx : p.tables.exec = Jvm.exec) (hZ : Z.Warmed39 s.vm) {own C owner : String} {index : Nat} {y z : MethodName} (hown : s.vm.findClass own = some m.cls)
    (w1 : (Jvm.Cond.methodLink own index y).before a0 Z = true) (w5 : (Jvm.Cond.sameMethod y.cls owner y.name y.desc).before a0 Z = true) (w2 : (Jvm.Cond.declares ⟨owner, y.name, y.desc⟩).before a0 Z = true) (w3 : (Jvm.Cond.selects C y z).before a0 Z = true) (w4 : (Jvm.Cond.instanceMethod z).before a0 Z = true) (hy : owner ≠ "java/lang/invoke/MethodHandle" ∧ owner ≠ "java/lang/invoke/VarHandle")
    {W kc ks : Nat} {as : Array Value} {QQ : Option Value → Heap → List Loc → Prop} (K : Pay l R p e below s args z W as h kc ks QQ) (eT : T.heap = h) {a : Addr} (E : Exa Z h a C) {g : JFrame} (hg : g.method = m) (hsize : g.locals.size = c.maxLocals) {argsL rest : List Value} (has : (.ref a :: argsL).toArray = as)
    (hlen : ∀ sig, parseMethodDescriptor y.desc = some sig → argsL.length = sig.parameters.length) (hstack : g.stack = argsL.reverse ++ .ref a :: rest) (hW : 2 * g.monitorRoom + (rest.map fun v => v.category).sum ≤ W) (hd : decode c.code g.pc = .ok (.invokevirtual index, 3)) (hc : cells + kc ≤ R.cells) (hs : slots + ks ≤ R.slots) :
    ∃ v T' L, Stand p l e R s m args below meth c T' (locs ++ L) (cells + kc) (slots + ks) ∧ QQ v T'.heap L ∧ ∀ u, Steps p.tables e below (T'.setTop { g with pc := g.pc + 3, stack := v.toList ++ rest }) u → Steps p.tables e below (T.setTop g) u := by
  obtain ⟨cB, kB, q1, q2, q3⟩ := isOf hZ eT E
  obtain ⟨v, _, ⟨T', L', k', n'⟩, -, X', ⟨L, hQ, l1, y1, z1⟩, st⟩ := X.virtualBackUp hx hown (mvT hZ w1) (mvT hZ w5) (mvT hZ w2) hy (mvT hZ w3) (mvT hZ w4) K q1 q3 hg hsize (Steps.refl _) hlen hstack hW hd (fun _ _ => ⟨has, eT, hc, hs⟩)
  try dsimp only [Pt.U, Pt.locs, Pt.cells, Pt.slots] at X' l1 y1 z1 st hQ
  subst l1 y1 z1
  exact ⟨v, T', L, X', hQ, fun u k => st.trans k⟩
/-- a private method by invokevirtual -/
theorem goP (X : Stand p l e R s m args below meth c T locs cells slots) (hx : p.tables.exec = Jvm.exec) (hZ : Z.Warmed39 s.vm) {own C : String} {index : Nat} {y : MethodName} {bytes : ByteArray} {maxL : Nat} {ret : Option FieldType} (hown : s.vm.findClass own = some m.cls)
    (w1 : (Jvm.Cond.methodLink own index y).before a0 Z = true) (w2 : (Jvm.Cond.instanceMethod y).before a0 Z = true) (w3 : (Jvm.Cond.selects y.cls y y).before a0 Z = true) (w5 : (Jvm.Cond.privateMethod y).before a0 Z = true) (w4 : (Jvm.Cond.code y bytes maxL ret).before a0 Z = true) (hy : y.cls ≠ "java/lang/invoke/MethodHandle" ∧ y.cls ≠ "java/lang/invoke/VarHandle")
    {W kc ks : Nat} {as : Array Value} {QQ : Option Value → Heap → List Loc → Prop} (K : Pay l R p e below s args y W as h kc ks QQ) (eT : T.heap = h) {a : Addr} (E : Exa Z h a C) {g : JFrame} (hg : g.method = m) (hsize : g.locals.size = c.maxLocals) {argsL rest : List Value} (has : (.ref a :: argsL).toArray = as)
    (hlen : ∀ sig, parseMethodDescriptor y.desc = some sig → argsL.length = sig.parameters.length) (hstack : g.stack = argsL.reverse ++ .ref a :: rest) (hW : 2 * g.monitorRoom + (rest.map fun v => v.category).sum ≤ W) (hd : decode c.code g.pc = .ok (.invokevirtual index, 3)) (hc : cells + kc ≤ R.cells) (hs : slots + ks ≤ R.slots) :
    ∃ v T' L, Stand p l e R s m args below meth c T' (locs ++ L) (cells + kc) (slots + ks) ∧ QQ v T'.heap L ∧ ∀ u, Steps p.tables e below (T'.setTop { g with pc := g.pc + 3, stack := v.toList ++ rest }) u → Steps p.tables e below (T.setTop g) u := by
  obtain ⟨cq, q1, q2⟩ := E.cell
  obtain ⟨v, _, ⟨T', L', k', n'⟩, -, X', ⟨L, hQ, l1, y1, z1⟩, st⟩ := X.privateBack hx hown (mvT hZ w1) (mvT hZ w2) (mvT hZ w3) (Cond.privateMethod_at (mvP hZ w5 (args := #[]))) (mvT hZ w4) hy K hg hsize (Steps.refl _) (by rw [eT]; exact q1) q2 hlen hstack hW hd (fun _ _ => ⟨has, eT, hc, hs⟩)
  try dsimp only [Pt.U, Pt.locs, Pt.cells, Pt.slots] at X' l1 y1 z1 st hQ
  subst l1 y1 z1
  exact ⟨v, T', L, X', hQ, fun u k => st.trans k⟩
theorem lremM {g : JFrame} {target : State} (X : Stand p l e R s m args below meth c T locs cells slots) (hx : p.tables.exec = Jvm.exec) (hg : g.method = m) {x y : Int64} {rest : List Value} (hd : decode c.code g.pc = .ok (.lrem, 1)) (hs : g.stack = .long y :: .long x :: rest) (hy : y ≠ 0)
    (hr : Steps p.tables e below (T.setTop { g with pc := g.pc + 1, stack := .long (x % y) :: rest }) target) : Steps p.tables e below (T.setTop g) target :=
  XS.lrem X.here hx hg hd hs hy (by rw [lrem_mod]; exact hr)
theorem own_cat {v : Value} (h : v.isRef = true) : v.category = 1 := by cases v <;> first | rfl | (simp [Value.isRef] at h; done)
theorem own_narrow_ref {t : FieldType} {v : Value} (h : v.isRef = true) : narrow t v = v := by cases v <;> first | (simp [Value.isRef] at h; done) | (cases t <;> rfl)
theorem own_fits_ref {C : String} {v : Value} (h : v.isRef = true) : fits (.object C) v = true := by cases v <;> simp_all [Value.isRef, fits]
/-- what the case's words say of a static -/
theorem sta_obj {C n d K : String} (hi : (Jvm.Cond.initializedFor C n d).before args s = true ∨ ((Jvm.Cond.initialized C).before args s = true ∧ (Jvm.Cond.laysStatic C n d).before args s = true)) (hx : (Jvm.Cond.exactly (.static C n d) K).value args s none s [] = some true) :
    ∃ a, Sta s s.heap C n d (.ref a) ∧ Exa s s.heap a K ∧ (Term.static C n d).eval args s none [] s = some (.ref a) := by
  obtain ⟨a, e⟩ := exa_v hx
  exact ⟨a, Sta.start e hi, Exa.start e hx, e⟩
theorem fld_l {t : Term} {a : Addr} {C f d : String} {v : Int64} (ev : t.eval args s none [] s = some (.ref a)) (h : (Jvm.Cond.eq (.field t C f d) (.long v)).value args s none s [] = some true) : Fld s s.heap a C f d (.long v) :=
  Fld.start (by rw [← fld_at ev]; exact eqv_l (long_at v) h)
theorem fld_i {t : Term} {a : Addr} {C f d : String} {v : Int32} (ev : t.eval args s none [] s = some (.ref a)) (h : (Jvm.Cond.eq (.field t C f d) (.int v)).value args s none s [] = some true) : Fld s s.heap a C f d (.int v) :=
  Fld.start (by rw [← fld_at ev]; exact eqv_i (Term.int_eval v) h)
theorem b01_ne {P : Prop} [Decidable P] (q : P) : ¬ (if P then (1 : Int32) else 0) = 0 := by rw [if_pos q]; decide
theorem b01_eq {P : Prop} [Decidable P] (q : ¬ P) : (if P then (1 : Int32) else 0) = 0 := if_neg q
theorem b01_nar {P : Prop} [Decidable P] : narrow .boolean (.int (if P then (1 : Int32) else 0)) = .int (if P then (1 : Int32) else 0) := by split <;> rfl
end Base
end Jvm.Own
namespace Jvm.Own
open Jvm Jvm.ClassFile Sem Op Lib Jvm.Free Jvm.Stand Jvm.LawKit Jvm.RoadKit Bundle
section Wide
variable {p : Program} {l : Launch} {e : Env} {R : Room} {s : State} {m : MethodId} {args : Array Value} {below : List Frame} {meth : Method} {c : Code} {T : State} {locs : List Loc} {cells slots : Nat} {Z : State} {a0 : Array Value} {h h0 : Heap} {EL : List (String × Nat)} {vm0 : Vm} {k0 : Nat}
/-- the end of a walk that may intern -/
def QW (Z : State) (EL : List (String × Nat)) (s : State) (rm : Room) (Q : Option Value → Heap → List Loc → Prop) (o : Outcome) (U' : State) : Prop := ∃ v L, o = .returned v ∧ Q v U'.heap L ∧ CHr Z EL s.vm s.heap U'.vm U'.heap ∧ ReturnedEndW s o U' L rm.cells rm.slots
abbrev CW (l : Launch) (Z : State) (EL : List (String × Nat)) (y : MethodName) (ws : List Jvm.Cond) (rm : Room) (as : Array Value) (h0 : Heap) (Q : Option Value → Heap → List Loc → Prop) : Prop :=
  MetFree l y (head1 ws rm) (fun a U => a = as ∧ Z.Warmed39 U.vm ∧ U.heap = h0 ∧ CHv Z EL U.vm h0) (fun _ _ _ _ _ => True) (fun _ U o U' => ∃ v L, o = .returned v ∧ Q v U'.heap L ∧ CHr Z EL U.vm U.heap U'.vm U'.heap ∧ ReturnedEndW U o U' L rm.cells rm.slots)
theorem CW.of {y : MethodName} {bytes : ByteArray} {maxL : Nat} {ret : Option FieldType} {ws : List Jvm.Cond} {rm : Room} {as : Array Value} {Q : Option Value → Heap → List Loc → Prop} {L0 : Array Slot}
    (hp : plainFor y = true) (ef : ∀ m, entryFrame m as maxL = mkF m 0 L0 [])
    (body : ∀ (p : Program) (e : Env) (s : State) (m : MethodId) (below : List Frame) (meth : Method) (c : Code) (s₁ : State), p.tables.exec = Jvm.exec → c.code = bytes → c.maxLocals = maxL → meth.sig.returnType = ret → meth.locks = false → Z.Warmed39 s.vm → s.vm.findClass y.cls = some m.cls → meth.name = y.name → Stand p l e rm (s.setVm s.vm) m as below meth c s₁ [] 0 0 → s₁.heap = h0 → s.Since s.vm h0.size → h0.size ≤ h0.size → CHv Z EL s.vm h0 → s.heap = h0 → Go p e below (QW Z EL s rm Q) (s₁.setTop (mkF m 0 L0 []))) :
    CW l Z EL y (Jvm.Cond.code y bytes maxL ret :: ws) rm as h0 Q := by
  refine MetFree.of_bodySF hp hisR ?_
  intro p e s m args below meth c s₁ Bd hml0 hP hK
  obtain ⟨rfl, hZ, hh, hC⟩ := hP
  have q := body p e s m below meth c s₁ Bd.exec Bd.bytes hml0 Bd.returns Bd.notSynchronized hZ (findClass_of_methodNamed Bd.named) (name_of_methodNamed Bd.named Bd.method).1 (Stand.of_body Bd) (by rw [← hh, Bd.state]; rfl) (State.WarmedH.since (State.WarmedH.refl s) _) (Nat.le_refl _) hC hh
  rw [← ef m] at q
  exact q
theorem Go.retW {Q : Option Value → Heap → List Loc → Prop} {rm : Room} {t : State} (X : Stand p l e R (s.setVm vm0) m args below meth c T locs cells slots) (eT : T.heap = h) (hS : s.Since vm0 k0) (hk : k0 ≤ h.size) (hZ : Z.Warmed39 vm0) (hEL : EW Z a0 EL) (hh0 : s.heap = h0) (HC : CHr Z EL s.vm h0 vm0 h) (hlk : meth.locks = false) (v : Option Value) (hv : meth.sig.returnType = none → v = none) (hc : cells ≤ rm.cells) (hs : slots ≤ rm.slots) (q : Q v T.heap locs)
    (st : ∀ fs, (∀ (f : JFrame) (acts : List Action), f.method = m → f.locked = none → f.entered = [] → (doReturn e (T.setTop f) acts v).1 = T.setFrames fs) → Steps p.tables e below t (T.setFrames fs)) : Go p e below (QW Z EL s rm Q) t := by
  subst eT hh0
  obtain ⟨fs, hr, hrun, hended, hR⟩ := X.leaveW hS hk (v := v) hv hlk
  have q2 : CHr Z EL vm0 T.heap T.vm T.heap := CHv.at X hZ hEL HC.1
  exact ⟨_, _, st fs hr, hrun, hended, v, locs, rfl, q, HC.trans q2, hR.1, hR.2.1, hR.2.2.1, hR.2.2.2.mono hc hs⟩
theorem Go.retVW {Q : Option Value → Heap → List Loc → Prop} {rm : Room} (X : Stand p l e R (s.setVm vm0) m args below meth c T locs cells slots) (eT : T.heap = h) (hS : s.Since vm0 k0) (hk : k0 ≤ h.size) (hZ : Z.Warmed39 vm0) (hEL : EW Z a0 EL) (hh0 : s.heap = h0) (HC : CHr Z EL s.vm h0 vm0 h) (hx : p.tables.exec = Jvm.exec) (hlk : meth.locks = false) {pc : Nat} {Ls : Array Slot} {w : Value} {t : FieldType} {i : Instr} {rest : List Value} (hret : meth.sig.returnType = some t) (hn : narrow t w = w)
    (hi : (i = .ireturn ∧ (t = .int ∨ t = .boolean ∨ t = .byte ∨ t = .char ∨ t = .short) ∧ ∃ z, w = .int z) ∨ (i = .lreturn ∧ t = .long ∧ ∃ z, w = .long z) ∨ (i = .dreturn ∧ t = .double ∧ ∃ z, w = .double z) ∨ (i = .freturn ∧ t = .float ∧ ∃ z, w = .float z) ∨ (i = .areturn ∧ t.isReference = true ∧ w.isRef = true))
    (hd : decode c.code pc = .ok (i, 1)) (hc : cells ≤ rm.cells) (hs : slots ≤ rm.slots) (q : Q (some w) T.heap locs) : Go p e below (QW Z EL s rm Q) (T.setTop (mkF m pc Ls (w :: rest))) :=
  Go.retW X eT hS hk hZ hEL hh0 HC hlk (some w) (fun h => by rw [hret] at h; cases h) hc hs q fun fs hr => retOut X hx hret hn hi hd hr
theorem Go.ret0W {Q : Option Value → Heap → List Loc → Prop} {rm : Room} (X : Stand p l e R (s.setVm vm0) m args below meth c T locs cells slots) (eT : T.heap = h) (hS : s.Since vm0 k0) (hk : k0 ≤ h.size) (hZ : Z.Warmed39 vm0) (hEL : EW Z a0 EL) (hh0 : s.heap = h0) (HC : CHr Z EL s.vm h0 vm0 h) (hx : p.tables.exec = Jvm.exec) (hlk : meth.locks = false) {pc : Nat} {Ls : Array Slot} (hret : meth.sig.returnType = none)
    (hd : decode c.code pc = .ok (.return_, 1)) (hc : cells ≤ rm.cells) (hs : slots ≤ rm.slots) (q : Q none T.heap locs) : Go p e below (QW Z EL s rm Q) (T.setTop (mkF m pc Ls [])) :=
  Go.retW X eT hS hk hZ hEL hh0 HC hlk none (fun _ => rfl) hc hs q fun fs hr => X.returnOut hx hret hd hr
/-- a String whose value isn't set yet is no booked one -/
theorem own_safe_null {x : Addr} {k : Nat} {vm : Vm} (hal : Z.vm.Alike vm) (E : Exa Z h x "java/lang/String") (F : Fld Z h x "java/lang/String" "value" "[B" .null) (wi : (Jvm.Cond.instantiable "java/lang/String" k).before a0 Z = true) : Safe Z EL vm h x := fun B => by
  obtain ⟨p, -, u, a, -, q, -, G, rfl | rfl⟩ := B
  · obtain ⟨cell, cf, k1, i, f, e1, e2, e3, e4, e5, e6, e7⟩ := F
    cases (show h[q.sa]? = some q.sC from G.ha).symm.trans e1
    obtain ⟨cS, ⟨⟨s1, s2, s3, ⟨cv, kv, iv, s4, s4'⟩, ⟨cc, kc, ic, s5, s5'⟩, s6, s7, s8, s9, r⟩, hfS, hcS⟩, r2⟩ := G
    obtain ⟨kv', z4⟩ := ff_back (U := Wst Z vm h) hal s4
    have e8 := e2.symm.trans z4
    simp only [Option.some.injEq, Prod.mk.injEq] at e8
    rw [e8.2.2.2, s8] at e7
    cases e7
  · obtain ⟨cell, k1, e1, e2, e3, -, -⟩ := E
    cases (show h[q.sd]? = some q.SA from G.hd).symm.trans e1
    obtain ⟨cS, -, -, f, -⟩ := G
    have f : vm.findClass "[B" = some q.SA.cls := f
    rw [hal.findClass] at f
    obtain ⟨k2, q1, q2⟩ := Vm.findClass_spec f
    obtain ⟨k3, q3, q4⟩ := Vm.findClass_spec e2
    cases q1.symm.trans q3
    exact absurd (q2.symm.trans q4) (by decide)
abbrev PayW (l : Launch) (R : Room) (p : Program) (e : Env) (below : List Frame) (Z : State) (EL : List (String × Nat)) (s : State) (vm0 : Vm) (args : Array Value) (y : MethodName) (W : Nat) (as : Array Value) (h : Heap) (kc ks : Nat) (QQ : Option Value → Heap → List Loc → Prop) : Prop :=
  BackS l R p e below (s.setVm vm0) args y 3 W (fun P a => a = as ∧ P.U.heap = h ∧ P.cells + kc ≤ R.cells ∧ P.slots + ks ≤ R.slots) (fun P _ v B => ∃ L, QQ v B.U.heap L ∧ B.locs = P.locs ++ L ∧ B.cells = P.cells + kc ∧ B.slots = P.slots + ks ∧ CHr Z EL vm0 h B.U.vm B.U.heap)
/-- what stands behind a call that may intern -/
abbrev AftW (p : Program) (l : Launch) (e : Env) (R : Room) (s : State) (m : MethodId) (args : Array Value) (below : List Frame) (meth : Method) (c : Code) (T : State) (locs : List Loc) (cells slots : Nat) (Z : State) (EL : List (String × Nat)) (vm0 : Vm) (h : Heap) (own : String) (kc ks : Nat) (QQ : Option Value → Heap → List Loc → Prop) (g : JFrame) (rest : List Value) : Prop :=
  ∃ v T' L, Stand p l e R (s.setVm T'.vm) m args below meth c T' (locs ++ L) (cells + kc) (slots + ks) ∧ QQ v T'.heap L ∧ s.Since T'.vm T'.heap.size ∧ Z.Warmed39 T'.vm ∧ T'.vm.findClass own = some m.cls ∧ CHr Z EL vm0 h T'.vm T'.heap ∧ ∀ u, Steps p.tables e below (T'.setTop { g with pc := g.pc + 3, stack := v.toList ++ rest }) u → Steps p.tables e below (T.setTop g) u
theorem goSW (X : Stand p l e R (s.setVm vm0) m args below meth c T locs cells slots) (hx : p.tables.exec = Jvm.exec) (hZ : Z.Warmed39 vm0) {own : String} {index : Nat} {y : MethodName} {bytes : ByteArray} {maxL : Nat} {ret : Option FieldType} (hown : vm0.findClass own = some m.cls) (hS : s.Since vm0 k0) (hk : k0 ≤ h.size)
    (w1 : (Jvm.Cond.methodLink own index y).before a0 Z = true) (w2 : (Jvm.Cond.static y).before a0 Z = true) (w3 : (Jvm.Cond.initialized y.cls).before a0 Z = true) (w4 : (Jvm.Cond.code y bytes maxL ret).before a0 Z = true) (hy : y.cls ≠ "java/lang/invoke/MethodHandle" ∧ y.cls ≠ "java/lang/invoke/VarHandle")
    {W kc ks : Nat} {as : Array Value} {QQ : Option Value → Heap → List Loc → Prop} (K : PayW l R p e below Z EL s vm0 args y W as h kc ks QQ) (eT : T.heap = h) {g : JFrame} (hg : g.method = m) (hsize : g.locals.size = c.maxLocals) {argsL rest : List Value} (has : argsL.toArray = as)
    (hlen : ∀ sig, parseMethodDescriptor y.desc = some sig → argsL.length = sig.parameters.length) (hstack : g.stack = argsL.reverse ++ rest) (hW : 2 * g.monitorRoom + (rest.map fun v => v.category).sum ≤ W) (hd : decode c.code g.pc = .ok (.invokestatic index, 3)) (hc : cells + kc ≤ R.cells) (hs : slots + ks ≤ R.slots) :
    AftW p l e R s m args below meth c T locs cells slots Z EL vm0 h own kc ks QQ g rest := by
  subst eT
  obtain ⟨v, _, ⟨T', L', k', n'⟩, -, X', h2, gl, ⟨L, hQ, l1, y1, z1, hC⟩, st⟩ := callSS X hx hown (mvT (s := s.setVm vm0) hZ w1) (mvT (s := s.setVm vm0) hZ w2) (mvT (s := s.setVm vm0) hZ w3) (mvT (s := s.setVm vm0) hZ w4) hy K hg hsize hlen hstack hW hd (fun _ _ => ⟨has, rfl, hc, hs⟩)
  try dsimp only [Pt.U, Pt.locs, Pt.cells, Pt.slots] at X' l1 y1 z1 st hQ h2 gl hC
  subst l1 y1 z1
  obtain ⟨a1, a2, a3, a4⟩ := rebS hS hk X' h2 gl hZ hown
  exact ⟨v, T', L, a1, hQ, a2, a3, a4, hC, fun u k => st.trans k⟩
theorem goCW (X : Stand p l e R (s.setVm vm0) m args below meth c T locs cells slots) (hx : p.tables.exec = Jvm.exec) (hZ : Z.Warmed39 vm0) {own : String} {index : Nat} {y : MethodName} {bytes : ByteArray} {maxL : Nat} (hown : vm0.findClass own = some m.cls) (hS : s.Since vm0 k0) (hk : k0 ≤ h.size)
    (hy1 : y.name = "<init>") (w1 : (Jvm.Cond.methodLink own index y).before a0 Z = true) (w2 : (Jvm.Cond.instanceMethod y).before a0 Z = true) (w4 : (Jvm.Cond.code y bytes maxL none).before a0 Z = true) (hy : y.cls ≠ "java/lang/invoke/MethodHandle" ∧ y.cls ≠ "java/lang/invoke/VarHandle")
    {W kc ks : Nat} {as : Array Value} {QQ : Option Value → Heap → List Loc → Prop} (K : PayW l R p e below Z EL s vm0 args y W as h kc ks QQ) (eT : T.heap = h) {g : JFrame} (hg : g.method = m) (hsize : g.locals.size = c.maxLocals) {a : Addr} {argsL rest : List Value} (has : (.ref a :: argsL).toArray = as)
    (hlen : ∀ sig, parseMethodDescriptor y.desc = some sig → argsL.length = sig.parameters.length) (hstack : g.stack = argsL.reverse ++ .ref a :: rest) (hW : 2 * g.monitorRoom + (rest.map fun v => v.category).sum ≤ W) (hd : decode c.code g.pc = .ok (.invokespecial index, 3)) (hc : cells + kc ≤ R.cells) (hs : slots + ks ≤ R.slots) :
    AftW p l e R s m args below meth c T locs cells slots Z EL vm0 h own kc ks QQ g rest := by
  subst eT
  obtain ⟨v, _, ⟨T', L', k', n'⟩, -, X', h2, gl, ⟨L, hQ, l1, y1, z1, hC⟩, st⟩ := X.specialBackS hx hy1 hown (mvT (s := s.setVm vm0) hZ w1) (mvT (s := s.setVm vm0) hZ w2) (mvT (s := s.setVm vm0) hZ w4) hy K hg hsize (Steps.refl _) hlen hstack hW hd (fun _ _ => ⟨has, rfl, hc, hs⟩)
  try dsimp only [Pt.U, Pt.locs, Pt.cells, Pt.slots] at X' l1 y1 z1 st hQ h2 gl hC
  subst l1 y1 z1
  obtain ⟨a1, a2, a3, a4⟩ := rebS hS hk X' h2 gl hZ hown
  exact ⟨v, T', L, a1, hQ, a2, a3, a4, hC, fun u k => st.trans k⟩
theorem goVW (X : Stand p l e R (s.setVm vm0) m args below meth c T locs cells slots) (hx : p.tables.exec = Jvm.exec) (hZ : Z.Warmed39 vm0) {own C : String} {index : Nat} {y z : MethodName} (hown : vm0.findClass own = some m.cls) (hS : s.Since vm0 k0) (hk : k0 ≤ h.size)
    (w1 : (Jvm.Cond.methodLink own index y).before a0 Z = true) (w2 : (Jvm.Cond.declares y).before a0 Z = true) (hnf : NotFace (s.setVm vm0) y) (w3 : (Jvm.Cond.selects C y z).before a0 Z = true) (w4 : (Jvm.Cond.instanceMethod z).before a0 Z = true) (hy : y.cls ≠ "java/lang/invoke/MethodHandle" ∧ y.cls ≠ "java/lang/invoke/VarHandle")
    {W kc ks : Nat} {as : Array Value} {QQ : Option Value → Heap → List Loc → Prop} (K : PayW l R p e below Z EL s vm0 args z W as h kc ks QQ) (eT : T.heap = h) {a : Addr} (E : Exa Z h a C) {g : JFrame} (hg : g.method = m) (hsize : g.locals.size = c.maxLocals) {argsL rest : List Value} (has : (.ref a :: argsL).toArray = as)
    (hlen : ∀ sig, parseMethodDescriptor y.desc = some sig → argsL.length = sig.parameters.length) (hstack : g.stack = argsL.reverse ++ .ref a :: rest) (hW : 2 * g.monitorRoom + (rest.map fun v => v.category).sum ≤ W) (hd : decode c.code g.pc = .ok (.invokevirtual index, 3)) (hc : cells + kc ≤ R.cells) (hs : slots + ks ≤ R.slots) :
    AftW p l e R s m args below meth c T locs cells slots Z EL vm0 h own kc ks QQ g rest := by
  subst eT
  obtain ⟨cB, kB, q1, q2, q3⟩ := isOf (s := s.setVm vm0) hZ rfl E
  obtain ⟨v, _, ⟨T', L', k', n'⟩, -, X', h2, gl, ⟨L, hQ, l1, y1, z1, hC⟩, st⟩ := X.virtualBackS hx hown (mvT (s := s.setVm vm0) hZ w1) (mvT (s := s.setVm vm0) hZ w2) hnf (mvT (s := s.setVm vm0) hZ w3) (mvT (s := s.setVm vm0) hZ w4) hy K q1 q3 hg hsize (Steps.refl _) hlen hstack hW hd (fun _ _ => ⟨has, rfl, hc, hs⟩)
  try dsimp only [Pt.U, Pt.locs, Pt.cells, Pt.slots] at X' l1 y1 z1 st hQ h2 gl hC
  subst l1 y1 z1
  obtain ⟨a1, a2, a3, a4⟩ := rebS hS hk X' h2 gl hZ hown
  exact ⟨v, T', L, a1, hQ, a2, a3, a4, hC, fun u k => st.trans k⟩
end Wide
end Jvm.Own
namespace Jvm.Own
open Jvm Jvm.ClassFile Sem Op Lib Jvm.Free Jvm.Stand Jvm.LawKit Jvm.RoadKit Bundle
section Strs
variable {Z : State} {h h' : Heap} {x : Addr} {cs : List Int32} {B B' : Nat} {a : Addr} {sl : Nat} {v : Value} {ws : List Addr}
/-- at x stands a String of the chars cs (each 0 to 255), it and its array below B -/
def Str (Z : State) (B : Nat) (h : Heap) (x : Addr) (cs : List Int32) : Prop := ∃ (t : Addr) (kb : ClassId), x < B ∧ t < B ∧ Exa Z h x "java/lang/String" ∧ Fld Z h x "java/lang/String" "value" "[B" (.ref t) ∧ Fld Z h x "java/lang/String" "coder" "B" (.int 0) ∧ Arv Z h t kb .byte (Int32.ofNat cs.length) ((cs.map fun c => c.toInt8.toInt32).map Value.int) (.int 0) ∧ (∀ c ∈ cs, ¬ c < 0 ∧ ¬ (255 : Int32) < c) ∧ cs.length ≤ 4000
theorem Str.ext (F : Str Z B h x cs) (E : Ext h h') : Str Z B h' x cs := by
  obtain ⟨t, kb, h1, h2, a, b, c, d, r⟩ := F; exact ⟨t, kb, h1, h2, a.ext E, b.ext E, c.ext E, d.ext E, r⟩
theorem Str.wr (F : Str Z B h x cs) (W : Wr h h' a sl v) (q : B ≤ a) : Str Z B h' x cs := by
  obtain ⟨t, kb, h1, h2, a, b, c, d, r⟩ := F
  exact ⟨t, kb, h1, h2, a.wr W, b.other W (Or.inl (Nat.ne_of_lt (Nat.lt_of_lt_of_le h1 q))), c.other W (Or.inl (Nat.ne_of_lt (Nat.lt_of_lt_of_le h1 q))), d.other W (Nat.ne_of_lt (Nat.lt_of_lt_of_le h2 q)), r⟩
theorem Str.wrE {C : String} {k : Nat} {a0 : Array Value} (F : Str Z B h x cs) (W : Wr h h' a sl v) (E : Exa Z h a C) (hC : C ≠ "java/lang/String") (wi : (Jvm.Cond.instantiable C k).before a0 Z = true) : Str Z B h' x cs := by
  obtain ⟨t, kb, h1, h2, a, b, c, d, r⟩ := F
  have n1 := (ne_exa E a hC).symm
  exact ⟨t, kb, h1, h2, a.wr W, b.other W (Or.inl n1), c.other W (Or.inl n1), d.other W (Exa.neArv E d wi).symm, r⟩
theorem Str.keep (F : Str Z B h x cs) (K : Keep h h' ws) (q : ∀ w ∈ ws, B ≤ w) : Str Z B h' x cs := by
  obtain ⟨t, kb, h1, h2, a, b, c, d, r⟩ := F
  have n1 : x ∉ ws := fun z => absurd h1 (Nat.not_lt.mpr (q _ z))
  have n2 : t ∉ ws := fun z => absurd h2 (Nat.not_lt.mpr (q _ z))
  exact ⟨t, kb, h1, h2, a.keep K, b.keep K n1, c.keep K n1, d.keep K n2, r⟩
theorem Str.keepE (F : Str Z B h x cs) (K : Keep h h' ws) (q : ∀ w ∈ ws, B ≤ w ∨ ∃ (C : String) (k : Nat) (a0 : Array Value), Exa Z h w C ∧ C ≠ "java/lang/String" ∧ (Jvm.Cond.instantiable C k).before a0 Z = true) : Str Z B h' x cs := by
  obtain ⟨t, kb, h1, h2, a, b, c, d, r⟩ := F
  have n1 : x ∉ ws := fun z => (q _ z).elim (fun u => absurd h1 (Nat.not_lt.mpr u)) (fun ⟨C, k, a0, E, hC, wi⟩ => ne_exa E a hC rfl)
  have n2 : t ∉ ws := fun z => (q _ z).elim (fun u => absurd h2 (Nat.not_lt.mpr u)) (fun ⟨C, k, a0, E, hC, wi⟩ => Exa.neArv E d wi rfl)
  exact ⟨t, kb, h1, h2, a.keep K, b.keep K n1, c.keep K n1, d.keep K n2, r⟩
theorem Str.mono (F : Str Z B h x cs) (q : B ≤ B') : Str Z B' h x cs := by
  obtain ⟨t, kb, h1, h2, r⟩ := F; exact ⟨t, kb, Nat.lt_of_lt_of_le h1 q, Nat.lt_of_lt_of_le h2 q, r⟩
theorem Str.lt (F : Str Z B h x cs) : x < B := by obtain ⟨t, kb, h1, r⟩ := F; exact h1
theorem Str.exa (F : Str Z B h x cs) : Exa Z h x "java/lang/String" := by obtain ⟨t, kb, h1, h2, a, r⟩ := F; exact a
theorem Str.lat (F : Str Z B h x cs) : ∀ c ∈ cs, ¬ c < 0 ∧ ¬ (255 : Int32) < c := by obtain ⟨t, kb, h1, h2, a, b, c, d, r, -⟩ := F; exact r
theorem Str.le4 (F : Str Z B h x cs) : cs.length ≤ 4000 := by obtain ⟨t, kb, h1, h2, a, b, c, d, r, q⟩ := F; exact q
theorem up255 {cs : List Int32} (hp : ∀ c ∈ cs, ¬ c < 0 ∧ ¬ (255 : Int32) < c) : ∀ c ∈ cs, ¬ c < 0 ∧ ¬ (65535 : Int32) < c := fun c hc => ⟨(hp c hc).1, fun q => (hp c hc).2 (by
  rw [Int32.lt_iff_toInt_lt] at q ⊢
  have e1 : (65535 : Int32).toInt = 65535 := by decide
  have e2 : (255 : Int32).toInt = 255 := by decide
  omega)⟩
end Strs
end Jvm.Own
namespace Jvm.Own
open Jvm Jvm.ClassFile Sem Op Lib Jvm.Free Jvm.Stand Jvm.LawKit Jvm.RoadKit Bundle
section Olds
variable {s : State} {args : Array Value} {t : Term} {a : Addr} {cl : Cell} {ty : FieldType}
theorem own_fit (hh : Jvm.Pilot.@@N@@.Jvm.D.heapFits s = true) : Fit s := by
  intro x c hc i hi
  obtain ⟨hx, rfl⟩ := Array.getElem?_eq_some_iff.mp hc
  have h1 := (Array.all_eq_true.mp hh) x hx
  have h2 := List.all_eq_true.mp h1 i (List.mem_range.mpr hi)
  rw [Array.getElem?_eq_getElem hi] at h2
  exact h2
theorem eqv_r {X F : Term} {y : Addr} (hF : F.eval args s none [] s = some (.ref y)) (h : (Jvm.Cond.eq X F).value args s none s [] = some true) : X.eval args s none [] s = some (.ref y) := Cond.eq_refs (beq_iff_eq.mpr h) hF rfl
theorem len_cell {z : Int32} (ev : t.eval args s none [] s = some (.ref a)) (h : (Jvm.Cond.eq (.length t) (.int z)).value args s none s [] = some true) (A : Arr s s.heap a cl ty) : cl.slots.size < 2 ^ 31 ∧ cl.slots.size.toInt32 = z := by
  have h := eqv_i (Term.int_eval z) h
  obtain ⟨a', c', e1, e2, e3⟩ := Term.length_spec h
  cases ev.symm.trans e1
  cases (arrayAt_spec e2).1.symm.trans A.1
  by_cases q : cl.slots.size < 2 ^ 31
  · exact ⟨q, (Value.int.inj e3).symm⟩
  · simp [Term.eval, ev, e2, q] at h
theorem el_at {j : Int32} {v : Value} {n : Nat} (h : (Term.elem t (.int j)).eval args s none [] s = some v) (ev : t.eval args s none [] s = some (.ref a)) (A : Arr s s.heap a cl ty) (e : j.toNatClampNeg = n) : cl.slots[n]? = some v := e ▸ (elem_in h ev (Term.int_eval j) A.1).2
theorem el_i {j y : Int32} {n : Nat} (h : (Jvm.Cond.eq (.elem t (.int j)) (.int y)).value args s none s [] = some true) (ev : t.eval args s none [] s = some (.ref a)) (A : Arr s s.heap a cl ty) (e : j.toNatClampNeg = n) : cl.slots[n]? = some (.int y) := el_at (eqv_i (Term.int_eval y) h) ev A e
theorem el_r {j : Int32} {F : Term} {y : Addr} {n : Nat} (h : (Jvm.Cond.eq (.elem t (.int j)) F).value args s none s [] = some true) (hF : F.eval args s none [] s = some (.ref y)) (ev : t.eval args s none [] s = some (.ref a)) (A : Arr s s.heap a cl ty) (e : j.toNatClampNeg = n) : cl.slots[n]? = some (.ref y) := el_at (eqv_r hF h) ev A e
theorem arv_start {z : Int32} {vs : List Value} {dv : Value} (hf : Fit s) (ev : t.eval args s none [] s = some (.ref a)) (hA : (Jvm.Cond.arrayOf t ty).value args s none s [] = some true) (hL : (Jvm.Cond.eq (.length t) (.int z)).value args s none s [] = some true) (hz : ¬ z < 0) (hl : z.toNatClampNeg = vs.length) (H : ∀ cl, Arr s s.heap a cl ty → HasL cl 0 vs) : ∃ k, Arv s s.heap a k ty z vs dv := by
  obtain ⟨cl, A⟩ := Arr.start ev hA
  obtain ⟨q1, q2⟩ := len_cell ev hL A
  exact ⟨_, Arv.start hf A q1 q2 hz hl (H cl A)⟩
/-- a String that stood when the law began, out of the case's words -/
theorem str_start {z : Int32} {cs : List Int32} (hf : Fit s) (ev : t.eval args s none [] s = some (.ref a)) (hX : (Jvm.Cond.exactly t "java/lang/String").value args s none s [] = some true) (hC : (Jvm.Cond.eq (.field t "java/lang/String" "coder" "B") (.int (0 : Int32))).value args s none s [] = some true)
    (hA : (Jvm.Cond.arrayOf (.field t "java/lang/String" "value" "[B") .byte).value args s none s [] = some true) (hL : (Jvm.Cond.eq (.length (.field t "java/lang/String" "value" "[B")) (.int z)).value args s none s [] = some true) (hz : ¬ z < 0) (hl : z.toNatClampNeg = ((cs.map fun c => c.toInt8.toInt32).map Value.int).length) (hzz : z = Int32.ofNat cs.length) (hlat : ∀ c ∈ cs, ¬ c < 0 ∧ ¬ (255 : Int32) < c) (h4 : cs.length ≤ 4000)
    (H : ∀ b cl, (Term.field t "java/lang/String" "value" "[B").eval args s none [] s = some (.ref b) → Arr s s.heap b cl .byte → HasL cl 0 ((cs.map fun c => c.toInt8.toInt32).map Value.int)) : Str s s.heap.size s.heap a cs := by
  obtain ⟨b, eb⟩ := arr_v hA
  obtain ⟨k, V⟩ := arv_start (dv := .int 0) hf eb hA hL hz hl (fun cl A => H b cl eb A)
  have E := Exa.start ev hX
  refine ⟨b, k, E.lt, V.lt, E, Fld.start (by rw [← fld_at ev]; exact eb), fld_i ev hC, by rw [← hzz]; exact V, hlat, h4⟩
end Olds
end Jvm.Own
/- laws to paste: Road.backV, Road.eqW, Road.codOf (cut by pick.py; bodies as the Statement names them) -/
namespace Jvm.Pilot.@@N@@
namespace StrChars
open Jvm Sem ClassFile Op Lib Jvm.Stand Jvm.Free.XT Jvm.Free.ALB Jvm.Free.JM Jvm.Free
open Jvm.Lib.Cold (StaticIs)
/-- a char array whose places are chars -/
def Ch (a : Addr) (A : Cell) (U : State) : Prop := Arr .char a A U ∧ Typed .char A
theorem Ch.mv {a : Addr} {A : Cell} {U U' : State} (h : Ch a A U) (hal : U.vm.Alike U'.vm) (hh : U'.heap = U.heap) : Ch a A U' := ⟨h.1.mv hal hh, h.2⟩
theorem Ch.keep {a : Addr} {A : Cell} {U U' : State} (h : Ch a A U) (hal : U.vm.Alike U'.vm) (hk : U'.heap[a]? = some A) : Ch a A U' := ⟨h.1.keep hal hk, h.2⟩
/-- what place i of a char[]'s cell holds -/
def cv (A : Cell) (i : Nat) : Int32 := match A.slots[i]? with | some (.int x) => x | _ => 0
theorem Ch.get {a : Addr} {A : Cell} {U : State} (h : Ch a A U) {i : Nat} (hi : i < A.slots.size) : A.slots[i]? = some (.int (cv A i)) := by
  have e := Array.getElem?_eq_getElem hi
  have f := h.2 i _ e
  unfold cv; rw [e]
  generalize A.slots[i] = v at f
  cases v <;> simp [fits] at f ⊢
/-- the byte that i2b leaves of a char -/
def lo8 (x : Int32) : Int32 := x.toInt8.toInt32
theorem fits_lo8 (y : Int32) : fits .byte (.int (lo8 y)) = true := by
  have h1 := y.toInt8.le_toInt
  have h2 := y.toInt8.toInt_lt
  simp only [lo8, fits, Bool.and_eq_true, decide_eq_true_eq, Int32.le_iff_toInt_le, Int8.toInt_toInt32, show (-128 : Int32).toInt = -128 from by decide, show (127 : Int32).toInt = 127 from by decide]
  omega
/-- A' is A but that each place j of lo .. hi - 1 holds f j -/
def Laid (A A' : Cell) (lo hi : Nat) (f : Nat → Value) : Prop := A'.cls = A.cls ∧ A'.vm = A.vm ∧ A'.slots.size = A.slots.size ∧ ∀ i, A'.slots[i]? = if lo ≤ i ∧ i < hi then some (f i) else A.slots[i]?
theorem Laid.zero (A : Cell) (lo : Nat) (f : Nat → Value) : Laid A A lo (lo + 0) f := ⟨rfl, rfl, rfl, fun i => by rw [if_neg (by omega)]⟩
theorem Laid.step {A Ak : Cell} {lo k : Nat} {f : Nat → Value} {v : Value} (h : Laid A Ak lo k f) (hlo : lo ≤ k) (hk : k < Ak.slots.size) (hv : v = f k) : Laid A (Ak.setSlot k v) lo (k + 1) f := by
  refine ⟨h.1, h.2.1, by simpa [Cell.setSlot] using h.2.2.1, fun i => ?_⟩
  by_cases e : k = i
  · subst e; rw [Cell.slots_setSlot_self v hk, if_pos (by omega), hv]
  · rw [Cell.slots_setSlot_ne v e, h.2.2.2 i]
    by_cases q : lo ≤ i ∧ i < k
    · rw [if_pos q, if_pos (by omega)]
    · rw [if_neg q, if_neg (by omega)]
def U16 : String := "java/lang/StringUTF16"
namespace Cmp5
def yN : MethodName := ⟨"java/lang/StringUTF16", "compress", "([CI[BII)I"⟩
abbrev yB : ByteArray := jdk_52_method_21_code
theorem d0 : decode yB 0 = .ok (.iconst 0, 1) := by decide +kernel
theorem d1 : decode yB 1 = .ok (.istore 5, 2) := by decide +kernel
theorem d3 : decode yB 3 = .ok (.iload 5, 2) := by decide +kernel
theorem d5 : decode yB 5 = .ok (.iload 4, 2) := by decide +kernel
theorem d7 : decode yB 7 = .ok (.if_icmp (.ge) 37, 3) := by decide +kernel
theorem d10 : decode yB 10 = .ok (.aload_n 0, 1) := by decide +kernel
theorem d11 : decode yB 11 = .ok (.iload_n 1, 1) := by decide +kernel
theorem d12 : decode yB 12 = .ok (.caload, 1) := by decide +kernel
theorem d13 : decode yB 13 = .ok (.istore 6, 2) := by decide +kernel
theorem d15 : decode yB 15 = .ok (.iload 6, 2) := by decide +kernel
theorem d17 : decode yB 17 = .ok (.sipush 255, 3) := by decide +kernel
theorem d20 : decode yB 20 = .ok (.if_icmp (.le) 6, 3) := by decide +kernel
theorem d26 : decode yB 26 = .ok (.aload_n 2, 1) := by decide +kernel
theorem d27 : decode yB 27 = .ok (.iload_n 3, 1) := by decide +kernel
theorem d28 : decode yB 28 = .ok (.iload 6, 2) := by decide +kernel
theorem d30 : decode yB 30 = .ok (.i2b, 1) := by decide +kernel
theorem d31 : decode yB 31 = .ok (.bastore, 1) := by decide +kernel
theorem d32 : decode yB 32 = .ok (.iinc 1 1, 3) := by decide +kernel
theorem d35 : decode yB 35 = .ok (.iinc 3 1, 3) := by decide +kernel
theorem d38 : decode yB 38 = .ok (.iinc 5 1, 3) := by decide +kernel
theorem d41 : decode yB 41 = .ok (.goto (-38), 3) := by decide +kernel
theorem d44 : decode yB 44 = .ok (.iload 4, 2) := by decide +kernel
theorem d46 : decode yB 46 = .ok (.ireturn, 1) := by decide +kernel
def site : List Cond := []
def tab : Cond := tabOf yN yB 7 (some .int) site
def P (b : Addr) (A : Cell) (d : Addr) (B : Cell) (o q len : Nat) (args : Array Value) (s : State) : Prop := args = #[.ref b, .int (Int32.ofNat o), .ref d, .int (Int32.ofNat q), .int (Int32.ofNat len)] ∧ Ch b A s ∧ Arr .byte d B s ∧ b ≠ d ∧ o + len ≤ A.slots.size ∧ q + len ≤ B.slots.size ∧ ∀ i, i < len → ¬ 255 < cv A (o + i)
def E (b : Addr) (A : Cell) (d : Addr) (B : Cell) (o q len : Nat) (r : Option Value) (s u : State) : Prop := r = some (.int (Int32.ofNat len)) ∧ ∃ B', Put d B' s u ∧ Laid B B' q (q + len) (fun j => Value.int (lo8 (cv A (o + (j - q)))))
/-- no char of the range above 255: len; the places written hold each char's low byte -/
theorem law (l : Launch) (b : Addr) (A : Cell) (d : Addr) (B : Cell) (o q len : Nat) : Law l yN 5 5 0 0 yB 7 (some .int) site (P b A d B o q len) (E b A d B o q len) (copyLocs d q len) 0 0 := by
  refine Law.of_walk (plainFor_of_name (by decide +kernel)) (by decide +kernel) (by decide +kernel) (by decide) (fun _ _ h => by rw [h.1]; rfl) (fun _ U U' hal hh h => ⟨h.1, h.2.1.mv hal hh, h.2.2.1.mv hal hh, h.2.2.2⟩) (fun r U U' V V' h1 hal h2 h => ⟨h.1, h.2.elim fun B' q => ⟨B', q.1.mv h1 h2, q.2⟩⟩) ?_
  intro p e s m args below meth c s₁ X0 hexec hbytes hml hret hlk hnm hown hh0 W hP
  obtain ⟨rfl, hA, hB, hne, l1, l2, hp⟩ := hP
  have c1 : Steps p.tables e below (s₁.setTop (entryFrame m #[.ref b, .int (Int32.ofNat o), .ref d, .int (Int32.ofNat q), .int (Int32.ofNat len)] 7)) (s₁.setTop (mkF m 0 #[.val (.ref b), .val (.int (Int32.ofNat o)), .val (.ref d), .val (.int (Int32.ofNat q)), .val (.int (Int32.ofNat len)), .unset, .unset] [])) := entry rfl
  have hA0 := hA.1.mv X0.warmed.alike hh0
  have hB0 := hB.mv X0.warmed.alike hh0
  have a31 := hA.1.2.2.2
  have c2 : Steps p.tables e below (s₁.setTop (entryFrame m #[.ref b, .int (Int32.ofNat o), .ref d, .int (Int32.ofNat q), .int (Int32.ofNat len)] 7)) (s₁.setTop (mkF m 3 #[.val (.ref b), .val (.int (Int32.ofNat o)), .val (.ref d), .val (.int (Int32.ofNat q)), .val (.int (Int32.ofNat len)), .val (.int 0), .unset] [])) := c1.trans (by
    refine iconstV X0.here hexec rfl 0 (hb hbytes d0) (by decide) ?_
    refine XS.istore X0.here hexec rfl (hb hbytes d1) rfl rfl ?_
    exact Steps.refl _)
  have loop : ∀ (r i : Nat), i + r = len → ∀ (z : Slot), (z = .unset ∨ ∃ w, z = .val w ∧ w.category = 1) → ∀ (Tl : State) (Bk : Cell), Stand p l e { frames := 0, locals := 0, cells := 0, slots := 0 } s m #[.ref b, .int (Int32.ofNat o), .ref d, .int (Int32.ofNat q), .int (Int32.ofNat len)] below meth c Tl ([] ++ copyLocs d q i) 0 0 → Put d Bk s₁ Tl → Laid B Bk q (q + i) (fun j => Value.int (lo8 (cv A (o + (j - q))))) →
      Steps p.tables e below (s₁.setTop (entryFrame m #[.ref b, .int (Int32.ofNat o), .ref d, .int (Int32.ofNat q), .int (Int32.ofNat len)] 7)) (Tl.setTop (mkF m 3 #[.val (.ref b), .val (.int (Int32.ofNat (o + i))), .val (.ref d), .val (.int (Int32.ofNat (q + i))), .val (.int (Int32.ofNat len)), .val (.int (Int32.ofNat i)), z] [])) → ∃ (T' : State) (B' : Cell) (z' : Slot), Stand p l e { frames := 0, locals := 0, cells := 0, slots := 0 } s m #[.ref b, .int (Int32.ofNat o), .ref d, .int (Int32.ofNat q), .int (Int32.ofNat len)] below meth c T' ([] ++ copyLocs d q len) 0 0 ∧ Put d B' s₁ T' ∧ Laid B B' q (q + len) (fun j => Value.int (lo8 (cv A (o + (j - q))))) ∧
      Steps p.tables e below (s₁.setTop (entryFrame m #[.ref b, .int (Int32.ofNat o), .ref d, .int (Int32.ofNat q), .int (Int32.ofNat len)] 7)) (T'.setTop (mkF m 3 #[.val (.ref b), .val (.int (Int32.ofNat (o + len))), .val (.ref d), .val (.int (Int32.ofNat (q + len))), .val (.int (Int32.ofNat len)), .val (.int (Int32.ofNat len)), z'] [])) := by
    intro r
    induction r with
    | zero =>
      intro i hi z hz Tl Bk Xl pl fl cl
      have hil : i = len := by omega
      rw [hil] at Xl fl cl
      exact ⟨Tl, Bk, z, Xl, pl, fl, cl⟩
    | succ r ih =>
      intro i hi z hz Tl Bk Xl pl fl cl
      have all := X0.warmed.alike.symm.trans Xl.warmed.alike
      have hAl := hA0.keep all (pl.other hne hA0.1)
      have hBk := hB0.like all pl.1 fl.1 fl.2.1 fl.2.2.1
      have hlt : q + i < Bk.slots.size := by rw [fl.2.2.1]; omega
      have c3 : Steps p.tables e below (s₁.setTop (entryFrame m #[.ref b, .int (Int32.ofNat o), .ref d, .int (Int32.ofNat q), .int (Int32.ofNat len)] 7)) (Tl.setTop (mkF m 12 #[.val (.ref b), .val (.int (Int32.ofNat (o + i))), .val (.ref d), .val (.int (Int32.ofNat (q + i))), .val (.int (Int32.ofNat len)), .val (.int (Int32.ofNat i)), z] [.int (Int32.ofNat (o + i)), .ref b])) := cl.trans (by
        refine XS.iload Xl.here hexec rfl (hb hbytes d3) rfl ?_
        refine XS.iload Xl.here hexec rfl (hb hbytes d5) rfl ?_
        refine XS.icmpNo Xl.here hexec rfl (hb hbytes d7) rfl (ii_ge_f (lt32 (by omega) (by omega))) ?_
        refine XS.aloadN Xl.here hexec rfl (hb hbytes d10) rfl rfl ?_
        refine XS.iloadN Xl.here hexec rfl (hb hbytes d11) rfl ?_
        exact Steps.refl _)
      have c4 : Steps p.tables e below (s₁.setTop (entryFrame m #[.ref b, .int (Int32.ofNat o), .ref d, .int (Int32.ofNat q), .int (Int32.ofNat len)] 7)) (Tl.setTop (mkF m 13 #[.val (.ref b), .val (.int (Int32.ofNat (o + i))), .val (.ref d), .val (.int (Int32.ofNat (q + i))), .val (.int (Int32.ofNat len)), .val (.int (Int32.ofNat i)), z] [.int (cv A (o + i))])) := c3.trans (by
        refine Xl.aget hexec hAl rfl (hA.get (i := o + i) (by omega)) rfl rfl (hb hbytes d12) ?_
        exact Steps.refl _)
      have c5 : Steps p.tables e below (s₁.setTop (entryFrame m #[.ref b, .int (Int32.ofNat o), .ref d, .int (Int32.ofNat q), .int (Int32.ofNat len)] 7)) (Tl.setTop (mkF m 15 #[.val (.ref b), .val (.int (Int32.ofNat (o + i))), .val (.ref d), .val (.int (Int32.ofNat (q + i))), .val (.int (Int32.ofNat len)), .val (.int (Int32.ofNat i)), .val (.int (cv A (o + i)))] [])) := c4.trans (by
        refine XS.istoreS Xl.here hexec rfl (hb hbytes d13) rfl rfl hz ?_
        exact Steps.refl _)
      have c6 : Steps p.tables e below (s₁.setTop (entryFrame m #[.ref b, .int (Int32.ofNat o), .ref d, .int (Int32.ofNat q), .int (Int32.ofNat len)] 7)) (Tl.setTop (mkF m 31 #[.val (.ref b), .val (.int (Int32.ofNat (o + i))), .val (.ref d), .val (.int (Int32.ofNat (q + i))), .val (.int (Int32.ofNat len)), .val (.int (Int32.ofNat i)), .val (.int (cv A (o + i)))] [.int (lo8 (cv A (o + i))), .int (Int32.ofNat (q + i)), .ref d])) := c5.trans (by
        refine XS.iload Xl.here hexec rfl (hb hbytes d15) rfl ?_
        refine sipushV Xl.here hexec rfl 255 (hb hbytes d17) (by decide) ?_
        refine XS.icmpYes Xl.here hexec rfl (pc0 := 20) rfl (hb hbytes d20) rfl (ii_le_t (hp i (by omega))) (by decide) rfl ?_
        refine XS.aloadN Xl.here hexec rfl (hb hbytes d26) rfl rfl ?_
        refine XS.iloadN Xl.here hexec rfl (hb hbytes d27) rfl ?_
        refine XS.iload Xl.here hexec rfl (hb hbytes d28) rfl ?_
        refine i2b Xl.here hexec rfl (hb hbytes d30) rfl ?_
        exact Steps.refl _)
      obtain ⟨T7, X7, p7, st7⟩ := Xl.aput hexec hBk rfl hlt rfl (fits_lo8 (cv A (o + i))) (g := (mkF m 31 #[.val (.ref b), .val (.int (Int32.ofNat (o + i))), .val (.ref d), .val (.int (Int32.ofNat (q + i))), .val (.int (Int32.ofNat len)), .val (.int (Int32.ofNat i)), .val (.int (cv A (o + i)))] [.int (lo8 (cv A (o + i))), .int (Int32.ofNat (q + i)), .ref d])) rfl (rest := []) rfl (hb hbytes d31)
      have c8 : Steps p.tables e below (s₁.setTop (entryFrame m #[.ref b, .int (Int32.ofNat o), .ref d, .int (Int32.ofNat q), .int (Int32.ofNat len)] 7)) (T7.setTop (mkF m 32 #[.val (.ref b), .val (.int (Int32.ofNat (o + i))), .val (.ref d), .val (.int (Int32.ofNat (q + i))), .val (.int (Int32.ofNat len)), .val (.int (Int32.ofNat i)), .val (.int (cv A (o + i)))] [])) := c6.trans (st7 _ (Steps.refl _))
      have c9 : Steps p.tables e below (s₁.setTop (entryFrame m #[.ref b, .int (Int32.ofNat o), .ref d, .int (Int32.ofNat q), .int (Int32.ofNat len)] 7)) (T7.setTop (mkF m 3 #[.val (.ref b), .val (.int (Int32.ofNat (o + i) + 1)), .val (.ref d), .val (.int (Int32.ofNat (q + i) + 1)), .val (.int (Int32.ofNat len)), .val (.int (Int32.ofNat i + 1)), .val (.int (cv A (o + i)))] [])) := c8.trans (by
        refine iincV X7.here hexec rfl 1 (hb hbytes d32) (by decide) rfl rfl ?_
        refine iincV X7.here hexec rfl 1 (hb hbytes d35) (by decide) rfl rfl ?_
        refine iincV X7.here hexec rfl 1 (hb hbytes d38) (by decide) rfl rfl ?_
        refine XS.goto X7.here hexec rfl (pc0 := 41) rfl (hb hbytes d41) (by decide) rfl ?_
        exact Steps.refl _)
      have c10 : Steps p.tables e below (s₁.setTop (entryFrame m #[.ref b, .int (Int32.ofNat o), .ref d, .int (Int32.ofNat q), .int (Int32.ofNat len)] 7)) (T7.setTop (mkF m 3 #[.val (.ref b), .val (.int (Int32.ofNat (o + (i + 1)))), .val (.ref d), .val (.int (Int32.ofNat (q + (i + 1)))), .val (.int (Int32.ofNat len)), .val (.int (Int32.ofNat (i + 1))), .val (.int (cv A (o + i)))] [])) := by
        have := c9
        rw [succ32, succ32, succ32] at this
        exact this
      exact ih (i + 1) (by omega) _ (Or.inr ⟨_, rfl, rfl⟩) T7 _ (by rw [copyLocs_step, ← List.append_assoc]; exact X7) (pl.trans p7) (fl.step (by omega) hlt (by simp)) c10
  obtain ⟨T9, B9, z9, X9, p9, f9, g9⟩ := loop len 0 (by omega) .unset (Or.inl rfl) s₁ B (by simpa [copyLocs] using X0) ⟨hB0.1, fun _ _ => rfl, rfl⟩ (Laid.zero _ _ _) c2
  have c11 : Steps p.tables e below (s₁.setTop (entryFrame m #[.ref b, .int (Int32.ofNat o), .ref d, .int (Int32.ofNat q), .int (Int32.ofNat len)] 7)) (T9.setTop (mkF m 46 #[.val (.ref b), .val (.int (Int32.ofNat (o + len))), .val (.ref d), .val (.int (Int32.ofNat (q + len))), .val (.int (Int32.ofNat len)), .val (.int (Int32.ofNat len)), z9] [.int (Int32.ofNat len)])) := g9.trans (by
    refine XS.iload X9.here hexec rfl (hb hbytes d3) rfl ?_
    refine XS.iload X9.here hexec rfl (hb hbytes d5) rfl ?_
    refine XS.icmpYes X9.here hexec rfl (pc0 := 7) rfl (hb hbytes d7) rfl (ii_ge_t (nlt32 (by omega) (Nat.le_refl _))) (by decide) rfl ?_
    refine XS.iload X9.here hexec rfl (hb hbytes d44) rfl ?_
    exact Steps.refl _)
  exact ⟨T9, some (.int (Int32.ofNat len)), _, _, _, X9, by simp, rfl, rfl, (fun h => by cases h), ⟨rfl, B9, p9.from hh0, f9⟩, fun fs hl => c11.trans (X9.ireturnOut hexec hret rfl (Or.inl rfl) (hb hbytes d46) hl)⟩
end Cmp5
namespace Cmp3
def yN : MethodName := ⟨"java/lang/StringUTF16", "compress", "([CII)[B"⟩
abbrev yB : ByteArray := jdk_52_method_16_code
theorem d0 : decode yB 0 = .ok (.iload_n 2, 1) := by decide +kernel
theorem d1 : decode yB 1 = .ok (.newarray .byte, 2) := by decide +kernel
theorem d3 : decode yB 3 = .ok (.astore_n 3, 1) := by decide +kernel
theorem d4 : decode yB 4 = .ok (.aload_n 0, 1) := by decide +kernel
theorem d5 : decode yB 5 = .ok (.iload_n 1, 1) := by decide +kernel
theorem d6 : decode yB 6 = .ok (.aload_n 3, 1) := by decide +kernel
theorem d7 : decode yB 7 = .ok (.iconst 0, 1) := by decide +kernel
theorem d8 : decode yB 8 = .ok (.iload_n 2, 1) := by decide +kernel
theorem d9 : decode yB 9 = .ok (.invokestatic 115, 3) := by decide +kernel
theorem d12 : decode yB 12 = .ok (.istore 4, 2) := by decide +kernel
theorem d14 : decode yB 14 = .ok (.iload 4, 2) := by decide +kernel
theorem d16 : decode yB 16 = .ok (.iload_n 2, 1) := by decide +kernel
theorem d17 : decode yB 17 = .ok (.if_icmp (.eq) 40, 3) := by decide +kernel
theorem d57 : decode yB 57 = .ok (.aload_n 3, 1) := by decide +kernel
theorem d58 : decode yB 58 = .ok (.areturn, 1) := by decide +kernel
def site : List Cond := [.arrayClass .byte, Cmp5.tab] ++ staticW U16 115 Cmp5.yN
def tab : Cond := tabOf yN yB 6 (some (.array .byte)) site
def P (b : Addr) (A : Cell) (o len : Nat) (args : Array Value) (s : State) : Prop := args = #[.ref b, .int (Int32.ofNat o), .int (Int32.ofNat len)] ∧ Ch b A s ∧ o + len ≤ A.slots.size ∧ len ≤ 536870912 ∧ ∀ i, i < len → ¬ 255 < cv A (o + i)
def E (b : Addr) (A : Cell) (o len : Nat) (r : Option Value) (s u : State) : Prop := NewArr .byte "[B" len (fun j => .int (lo8 (cv A (o + j)))) r s u ∧ u.heap.size = s.heap.size + 1
/-- no char of the range above 255: a new byte[] of their low bytes -/
theorem law (l : Launch) (b : Addr) (A : Cell) (o len : Nat) : Law l yN 3 3 1 18 yB 6 (some (.array .byte)) site (P b A o len) (E b A o len) [] 1 len := by
  refine Law.of_walk (plainFor_of_name (by decide +kernel)) (by decide +kernel) (by decide +kernel) (by decide) (fun _ _ h => by rw [h.1]; rfl) (fun _ U U' hal hh h => ⟨h.1, h.2.1.mv hal hh, h.2.2⟩) (fun r U U' V V' h1 hal h2 h => ⟨NewArr.mv r U U' V V' h1 hal h2 h.1, by rw [h1, h2]; exact h.2⟩) ?_
  intro p e s m args below meth c s₁ X0 hexec hbytes hml hret hlk hnm hown hh0 W hP
  obtain ⟨rfl, hA, l1, l2, hp⟩ := hP
  have a31 := hA.1.2.2.2
  have c1 : Steps p.tables e below (s₁.setTop (entryFrame m #[.ref b, .int (Int32.ofNat o), .int (Int32.ofNat len)] 6)) (s₁.setTop (mkF m 0 #[.val (.ref b), .val (.int (Int32.ofNat o)), .val (.int (Int32.ofNat len)), .unset, .unset, .unset] [])) := entry rfl
  have c2 : Steps p.tables e below (s₁.setTop (entryFrame m #[.ref b, .int (Int32.ofNat o), .int (Int32.ofNat len)] 6)) (s₁.setTop (mkF m 1 #[.val (.ref b), .val (.int (Int32.ofNat o)), .val (.int (Int32.ofNat len)), .unset, .unset, .unset] [.int (Int32.ofNat len)])) := c1.trans (by
    refine XS.iloadN X0.here hexec rfl (hb hbytes d0) rfl ?_
    exact Steps.refl _)
  obtain ⟨T3, B3, X3, ba3, bs3, bv3, bh3, bf3, st3⟩ := X0.anew hexec (atype := .byte) (wk W (.arrayClass .byte)) rfl (by show len * 1 ≤ _; omega) (by omega) (g := (mkF m 1 #[.val (.ref b), .val (.int (Int32.ofNat o)), .val (.int (Int32.ofNat len)), .unset, .unset, .unset] [.int (Int32.ofNat len)])) rfl (hb hbytes d1) (rest := []) rfl (Nat.le_refl _) (by show 0 + len ≤ len; omega)
  rw [hh0] at ba3 st3
  have kp3 : XT.Kept s T3 := (XT.Kept.of_eq hh0).push bh3
  have hA3 := hA.keep X3.warmed.alike (kp3 _ _ hA.1.1)
  have hne : b ≠ s.heap.size := hA.1.ne
  have c4 : Steps p.tables e below (s₁.setTop (entryFrame m #[.ref b, .int (Int32.ofNat o), .int (Int32.ofNat len)] 6)) (T3.setTop (mkF m 3 #[.val (.ref b), .val (.int (Int32.ofNat o)), .val (.int (Int32.ofNat len)), .unset, .unset, .unset] [.ref s.heap.size])) := c2.trans (st3 _ (Steps.refl _))
  have c5 : Steps p.tables e below (s₁.setTop (entryFrame m #[.ref b, .int (Int32.ofNat o), .int (Int32.ofNat len)] 6)) (T3.setTop (mkF m 9 #[.val (.ref b), .val (.int (Int32.ofNat o)), .val (.int (Int32.ofNat len)), .val (.ref s.heap.size), .unset, .unset] [.int (Int32.ofNat len), .int 0, .ref s.heap.size, .int (Int32.ofNat o), .ref b])) := c4.trans (by
    refine XS.astoreN X3.here hexec rfl (hb hbytes d3) rfl rfl rfl ?_
    refine XS.aloadN X3.here hexec rfl (hb hbytes d4) rfl rfl ?_
    refine XS.iloadN X3.here hexec rfl (hb hbytes d5) rfl ?_
    refine XS.aloadN X3.here hexec rfl (hb hbytes d6) rfl rfl ?_
    refine iconstV X3.here hexec rfl 0 (hb hbytes d7) (by decide) ?_
    refine XS.iloadN X3.here hexec rfl (hb hbytes d8) rfl ?_
    exact Steps.refl _)
  obtain ⟨v6, T6, X6, E6, g6⟩ := X3.callS hexec (Cmp5.law l b A s.heap.size B3 o 0 len) hown (wks W (staticW U16 115 Cmp5.yN)) (wk W Cmp5.tab) (W := 0) (Nat.le_of_ble_eq_true rfl) (Nat.le_of_ble_eq_true rfl) (Nat.le_refl _) (by show 0 + len + 0 ≤ len; omega) (g := (mkF m 9 #[.val (.ref b), .val (.int (Int32.ofNat o)), .val (.int (Int32.ofNat len)), .val (.ref s.heap.size), .unset, .unset] [.int (Int32.ofNat len), .int (Int32.ofNat 0), .ref s.heap.size, .int (Int32.ofNat o), .ref b])) rfl (by rw [hml]; rfl) c5 (argsL := [.ref b, .int (Int32.ofNat o), .ref s.heap.size, .int (Int32.ofNat 0), .int (Int32.ofNat len)]) (rest := []) rfl rfl (by show 2 * 0 + 0 ≤ _; decide) (hb hbytes d9) (⟨rfl, hA3, ba3, hne, l1, by rw [bs3]; simp, hp⟩)
  obtain ⟨rfl, B6, p6, f6⟩ := E6
  have c7 : Steps p.tables e below (s₁.setTop (entryFrame m #[.ref b, .int (Int32.ofNat o), .int (Int32.ofNat len)] 6)) (T6.setTop (mkF m 12 #[.val (.ref b), .val (.int (Int32.ofNat o)), .val (.int (Int32.ofNat len)), .val (.ref s.heap.size), .unset, .unset] [.int (Int32.ofNat len)])) := g6
  have c8 : Steps p.tables e below (s₁.setTop (entryFrame m #[.ref b, .int (Int32.ofNat o), .int (Int32.ofNat len)] 6)) (T6.setTop (mkF m 58 #[.val (.ref b), .val (.int (Int32.ofNat o)), .val (.int (Int32.ofNat len)), .val (.ref s.heap.size), .val (.int (Int32.ofNat len)), .unset] [.ref s.heap.size])) := c7.trans (by
    refine XS.istore X6.here hexec rfl (hb hbytes d12) rfl rfl ?_
    refine XS.iload X6.here hexec rfl (hb hbytes d14) rfl ?_
    refine XS.iloadN X6.here hexec rfl (hb hbytes d16) rfl ?_
    refine XS.icmpYes X6.here hexec rfl (pc0 := 17) rfl (hb hbytes d17) rfl (ii_eq_t rfl) (by decide) rfl ?_
    refine XS.aloadN X6.here hexec rfl (hb hbytes d57) rfl rfl ?_
    exact Steps.refl _)
  have X8 := X6.wide (L' := []) (cells' := 1) (slots' := len) (fun x hx hlt => by
    simp only [List.nil_append, copyLocs, List.mem_map, List.mem_range] at hx
    obtain ⟨i, -, rfl⟩ := hx
    exact absurd hlt (Nat.lt_irrefl _)) (Nat.le_refl _) (by omega)
  exact ⟨T6, some (.ref s.heap.size), _, _, _, X8, rfl, rfl, rfl, (fun h => by cases h), ⟨⟨rfl, B6, ba3.like (X3.warmed.alike.symm.trans X6.warmed.alike) p6.1 f6.1 f6.2.1 f6.2.2.1, f6.2.1.trans bv3, by rw [X6.warmed.alike.findClass, f6.1]; exact bf3, by rw [f6.2.2.1, bs3]; simp, fun j hj => by rw [f6.2.2.2 j, if_pos (by omega)]; rfl, kp3.put p6 (Nat.le_refl _)⟩, by rw [p6.2.2, bh3, hh0]; simp⟩, fun fs hl => c8.trans (X8.areturnOut hexec rfl hret rfl (hb hbytes d58) hl)⟩
end Cmp3
namespace CodL
def yN : MethodName := ⟨"java/lang/StringUTF16", "coderFromArrayLen", "([BI)B"⟩
abbrev yB : ByteArray := jdk_52_method_15_code
theorem d0 : decode yB 0 = .ok (.iload_n 1, 1) := by decide +kernel
theorem d1 : decode yB 1 = .ok (.aload_n 0, 1) := by decide +kernel
theorem d2 : decode yB 2 = .ok (.arraylength, 1) := by decide +kernel
theorem d3 : decode yB 3 = .ok (.isub, 1) := by decide +kernel
theorem d4 : decode yB 4 = .ok (.bipush 31, 2) := by decide +kernel
theorem d6 : decode yB 6 = .ok (.iushr, 1) := by decide +kernel
theorem d7 : decode yB 7 = .ok (.i2b, 1) := by decide +kernel
theorem d8 : decode yB 8 = .ok (.ireturn, 1) := by decide +kernel
def site : List Cond := []
def tab : Cond := tabOf yN yB 2 (some .byte) site
def P (d : Addr) (B : Cell) (args : Array Value) (s : State) : Prop := args = #[.ref d, .int (Int32.ofNat B.slots.size)] ∧ Arr .byte d B s
def E (r : Option Value) (s u : State) : Prop := XT.PureE (some (.int 0)) r s u
/-- an array as long as the number of chars: LATIN1 -/
theorem law (l : Launch) (d : Addr) (B : Cell) : Law l yN 2 2 0 0 yB 2 (some .byte) site (P d B) E [] 0 0 := by
  refine Law.of_walk (plainFor_of_name (by decide +kernel)) (by decide +kernel) (by decide +kernel) (by decide) (fun _ _ h => by rw [h.1]; rfl) (fun _ U U' hal hh h => ⟨h.1, h.2.mv hal hh⟩) (fun r U U' V V' h1 hal h2 h => XT.PureE.mv r U U' V V' h1 hal h2 h) ?_
  intro p e s m args below meth c s₁ X0 hexec hbytes hml hret hlk hnm hown hh0 W hP
  obtain ⟨rfl, hB⟩ := hP
  have hB0 := hB.mv X0.warmed.alike hh0
  have c1 : Steps p.tables e below (s₁.setTop (entryFrame m #[.ref d, .int (Int32.ofNat B.slots.size)] 2)) (s₁.setTop (mkF m 0 #[.val (.ref d), .val (.int (Int32.ofNat B.slots.size))] [])) := entry rfl
  have c2 : Steps p.tables e below (s₁.setTop (entryFrame m #[.ref d, .int (Int32.ofNat B.slots.size)] 2)) (s₁.setTop (mkF m 2 #[.val (.ref d), .val (.int (Int32.ofNat B.slots.size))] [.ref d, .int (Int32.ofNat B.slots.size)])) := c1.trans (by
    refine XS.iloadN X0.here hexec rfl (hb hbytes d0) rfl ?_
    refine XS.aloadN X0.here hexec rfl (hb hbytes d1) rfl rfl ?_
    exact Steps.refl _)
  have c3 : Steps p.tables e below (s₁.setTop (entryFrame m #[.ref d, .int (Int32.ofNat B.slots.size)] 2)) (s₁.setTop (mkF m 8 #[.val (.ref d), .val (.int (Int32.ofNat B.slots.size))] [.int (lo8 (ushr (Int32.ofNat B.slots.size - Int32.ofNat B.slots.size) 31))])) := c2.trans (by
    refine X0.alen hexec hB0 rfl rfl (hb hbytes d2) ?_
    refine XS.isub X0.here hexec rfl (hb hbytes d3) rfl ?_
    refine bipushV X0.here hexec rfl 31 (hb hbytes d4) (by decide) ?_
    refine iushr X0.here hexec rfl (hb hbytes d6) rfl ?_
    refine i2b X0.here hexec rfl (hb hbytes d7) rfl ?_
    exact Steps.refl _)
  have e0 : lo8 (ushr (Int32.ofNat B.slots.size - Int32.ofNat B.slots.size) 31) = 0 := by rw [Int32.sub_self]; decide
  rw [e0] at c3
  exact ⟨s₁, some (.int 0), _, _, _, X0, rfl, rfl, rfl, (fun h => by cases h), ⟨rfl, hh0⟩, fun fs hl => c3.trans (X0.ireturnOut hexec hret rfl (Or.inr (Or.inr (Or.inl rfl))) (hb hbytes d8) hl)⟩
end CodL
/-- the String at a is Latin-1 over a new byte[] (the heap's one new cell): the low bytes of the len chars of A from o on; every cell but a is kept -/
def Got (a : Addr) (D : Cell) (fV fC : Field) (A : Cell) (o len : Nat) (r : Option Value) (s u : State) : Prop := r = none ∧ ∃ D' V : Cell, Blank "java/lang/String" a D' u ∧ Same D D' [fV.slot, fC.slot] ∧ D'.slots[fV.slot]? = some (.ref s.heap.size) ∧ D'.slots[fC.slot]? = some (.int 0) ∧ Arr .byte s.heap.size V u ∧ V.vm = .none ∧ u.vm.findClass "[B" = some V.cls ∧ V.slots.size = len ∧ (∀ j, j < len → V.slots[j]? = some (.int (lo8 (cv A (o + j))))) ∧ (∀ (y : Addr) (c : Cell), y ≠ a → s.heap[y]? = some c → u.heap[y]? = some c) ∧ u.heap.size = s.heap.size + 1
theorem Got.mv {a : Addr} {D A : Cell} {fV fC : Field} {o len : Nat} : ∀ r (U U' V V' : State), U'.heap = U.heap → V.vm.Alike V'.vm → V'.heap = V.heap → Got a D fV fC A o len r U V → Got a D fV fC A o len r U' V' :=
  fun r U U' V V' h1 hal h2 ⟨e0, D', X, a1, a2, a3, a4, a5, a6, a7, a8, a9, a10, a11⟩ => ⟨e0, D', X, a1.mv hal h2, a2, by rw [h1]; exact a3, a4, by rw [h1]; exact a5.mv hal h2, a6, by rw [hal.findClass]; exact a7, a8, a9, by rw [h1, h2]; exact a10, by rw [h1, h2]; exact a11⟩
namespace New4
def yN : MethodName := ⟨"java/lang/String", "<init>", "([CIILjava/lang/Void;)V"⟩
abbrev yB : ByteArray := jdk_42_method_149_code
theorem d0 : decode yB 0 = .ok (.aload_n 0, 1) := by decide +kernel
theorem d1 : decode yB 1 = .ok (.invokespecial 1, 3) := by decide +kernel
theorem d4 : decode yB 4 = .ok (.iload_n 3, 1) := by decide +kernel
theorem d5 : decode yB 5 = .ok (.ifCond (.ne) 22, 3) := by decide +kernel
theorem d27 : decode yB 27 = .ok (.getstatic 38, 3) := by decide +kernel
theorem d30 : decode yB 30 = .ok (.ifCond (.eq) 28, 3) := by decide +kernel
theorem d33 : decode yB 33 = .ok (.aload_n 1, 1) := by decide +kernel
theorem d34 : decode yB 34 = .ok (.iload_n 2, 1) := by decide +kernel
theorem d35 : decode yB 35 = .ok (.iload_n 3, 1) := by decide +kernel
theorem d36 : decode yB 36 = .ok (.invokestatic 177, 3) := by decide +kernel
theorem d39 : decode yB 39 = .ok (.astore 5, 2) := by decide +kernel
theorem d41 : decode yB 41 = .ok (.aload_n 0, 1) := by decide +kernel
theorem d42 : decode yB 42 = .ok (.aload 5, 2) := by decide +kernel
theorem d44 : decode yB 44 = .ok (.iload_n 3, 1) := by decide +kernel
theorem d45 : decode yB 45 = .ok (.invokestatic 47, 3) := by decide +kernel
theorem d48 : decode yB 48 = .ok (.putfield 15, 3) := by decide +kernel
theorem d51 : decode yB 51 = .ok (.aload_n 0, 1) := by decide +kernel
theorem d52 : decode yB 52 = .ok (.aload 5, 2) := by decide +kernel
theorem d54 : decode yB 54 = .ok (.putfield 9, 3) := by decide +kernel
theorem d57 : decode yB 57 = .ok (.return_, 1) := by decide +kernel
def site : List Cond := [.fieldLink "java/lang/String" 38 "java/lang/String" "COMPACT_STRINGS" "Z", Cmp3.tab, CodL.tab, .laysFinal "java/lang/String" "java/lang/String" "value" "[B", .fieldLink "java/lang/String" 9 "java/lang/String" "value" "[B", .laysFinal "java/lang/String" "java/lang/String" "coder" "B", .fieldLink "java/lang/String" 15 "java/lang/String" "coder" "B"] ++ objW "java/lang/String" 1 ++ staticW "java/lang/String" 177 Cmp3.yN ++ staticW "java/lang/String" 47 CodL.yN
def tab : Cond := tabOf yN yB 6 none site
def P (a : Addr) (D : Cell) (fV fC : Field) (b : Addr) (A : Cell) (z : Int32) (o len : Nat) (args : Array Value) (s : State) : Prop := args = #[.ref a, .ref b, .int (Int32.ofNat o), .int (Int32.ofNat len), .null] ∧ Blank "java/lang/String" a D s ∧ Found "java/lang/String" "value" "[B" fV s ∧ Found "java/lang/String" "coder" "B" fC s ∧ Ch b A s ∧ StaticIs s "java/lang/String" "COMPACT_STRINGS" "Z" (.int z) ∧ ¬ z = 0 ∧ 0 < len ∧ o + len ≤ A.slots.size ∧ len ≤ 536870912 ∧ ∀ i, i < len → ¬ 255 < cv A (o + i)
def E (a : Addr) (D : Cell) (fV fC : Field) (A : Cell) (o len : Nat) (r : Option Value) (s u : State) : Prop := Got a D fV fC A o len r s u
/-- len > 0, no char of the range above 255: a Latin-1 String of their low bytes -/
theorem law (l : Launch) (a : Addr) (D : Cell) (fV fC : Field) (b : Addr) (A : Cell) (z : Int32) (o len : Nat) : Law l yN 5 4 2 35 yB 6 none site (P a D fV fC b A z o len) (E a D fV fC A o len) [⟨a, fC.slot⟩, ⟨a, fV.slot⟩] 1 len := by
  refine Law.of_walk (plainFor_of_name (by decide +kernel)) (by decide +kernel) (by decide +kernel) (by decide) (fun _ _ h => by rw [h.1]; rfl) (fun _ U U' hal hh h => ⟨h.1, h.2.1.mv hal hh, h.2.2.1.al hal, h.2.2.2.1.al hal, h.2.2.2.2.1.mv hal hh, h.2.2.2.2.2.1.there hal hh, h.2.2.2.2.2.2⟩) (fun r U U' V V' h1 hal h2 h => Got.mv r U U' V V' h1 hal h2 h) ?_
  intro p e s m args below meth c s₁ X0 hexec hbytes hml hret hlk hnm hown hh0 W hP
  obtain ⟨rfl, hB, f1, f2, hA, s1, hz, l0, l1, l2, hp⟩ := hP
  have a31 := hA.1.2.2.2
  have c1 : Steps p.tables e below (s₁.setTop (entryFrame m #[.ref a, .ref b, .int (Int32.ofNat o), .int (Int32.ofNat len), .null] 6)) (s₁.setTop (mkF m 0 #[.val (.ref a), .val (.ref b), .val (.int (Int32.ofNat o)), .val (.int (Int32.ofNat len)), .val .null, .unset] [])) := entry rfl
  have c2 : Steps p.tables e below (s₁.setTop (entryFrame m #[.ref a, .ref b, .int (Int32.ofNat o), .int (Int32.ofNat len), .null] 6)) (s₁.setTop (mkF m 1 #[.val (.ref a), .val (.ref b), .val (.int (Int32.ofNat o)), .val (.int (Int32.ofNat len)), .val .null, .unset] [.ref a])) := c1.trans (by
    refine XS.aloadN X0.here hexec rfl (hb hbytes d0) rfl rfl ?_
    exact Steps.refl _)
  obtain ⟨T3, X3, q3, st3⟩ := X0.oinit hexec hown (wks W (objW "java/lang/String" 1)) (g := (mkF m 1 #[.val (.ref a), .val (.ref b), .val (.int (Int32.ofNat o)), .val (.int (Int32.ofNat len)), .val .null, .unset] [.ref a])) rfl (by rw [hml]; rfl) (rest := []) rfl (hb hbytes d1) (W := 0) (by show 2 * 0 + 0 ≤ _; decide) (Nat.le_of_ble_eq_true rfl) (Nat.le_of_ble_eq_true rfl)
  have hh3 := q3.trans hh0
  have c4 : Steps p.tables e below (s₁.setTop (entryFrame m #[.ref a, .ref b, .int (Int32.ofNat o), .int (Int32.ofNat len), .null] 6)) (T3.setTop (mkF m 27 #[.val (.ref a), .val (.ref b), .val (.int (Int32.ofNat o)), .val (.int (Int32.ofNat len)), .val .null, .unset] [])) := (c2.trans (st3 _ (Steps.refl _))).trans (by
    refine XS.iloadN X3.here hexec rfl (hb hbytes d4) rfl ?_
    refine XS.ifYes X3.here hexec rfl (pc0 := 5) rfl (hb hbytes d5) rfl (i0_ne_t (nz32 (by omega) l0)) (by decide) rfl ?_
    exact Steps.refl _)
  obtain ⟨T5, X5, q5, st5⟩ := X3.sget hexec hown (wk W (.fieldLink "java/lang/String" 38 "java/lang/String" "COMPACT_STRINGS" "Z")) s1 (fun _ _ h => by rw [hh3]; exact h) (g := (mkF m 27 #[.val (.ref a), .val (.ref b), .val (.int (Int32.ofNat o)), .val (.int (Int32.ofNat len)), .val .null, .unset] [])) rfl (hb hbytes d27)
  have hh5 := q5.trans hh3
  have c6 : Steps p.tables e below (s₁.setTop (entryFrame m #[.ref a, .ref b, .int (Int32.ofNat o), .int (Int32.ofNat len), .null] 6)) (T5.setTop (mkF m 30 #[.val (.ref a), .val (.ref b), .val (.int (Int32.ofNat o)), .val (.int (Int32.ofNat len)), .val .null, .unset] [.int z])) := c4.trans (st5 _ (Steps.refl _))
  have c7 : Steps p.tables e below (s₁.setTop (entryFrame m #[.ref a, .ref b, .int (Int32.ofNat o), .int (Int32.ofNat len), .null] 6)) (T5.setTop (mkF m 36 #[.val (.ref a), .val (.ref b), .val (.int (Int32.ofNat o)), .val (.int (Int32.ofNat len)), .val .null, .unset] [.int (Int32.ofNat len), .int (Int32.ofNat o), .ref b])) := c6.trans (by
    refine XS.ifNo X5.here hexec rfl (hb hbytes d30) rfl (i0_eq_f hz) ?_
    refine XS.aloadN X5.here hexec rfl (hb hbytes d33) rfl rfl ?_
    refine XS.iloadN X5.here hexec rfl (hb hbytes d34) rfl ?_
    refine XS.iloadN X5.here hexec rfl (hb hbytes d35) rfl ?_
    exact Steps.refl _)
  obtain ⟨v8, T8, X8, E8, g8⟩ := X5.callS hexec (Cmp3.law l b A o len) hown (wks W (staticW "java/lang/String" 177 Cmp3.yN)) (wk W Cmp3.tab) (W := 0) (Nat.le_of_ble_eq_true rfl) (Nat.le_of_ble_eq_true rfl) (Nat.le_refl _) (by show 0 + len ≤ len; omega) (g := (mkF m 36 #[.val (.ref a), .val (.ref b), .val (.int (Int32.ofNat o)), .val (.int (Int32.ofNat len)), .val .null, .unset] [.int (Int32.ofNat len), .int (Int32.ofNat o), .ref b])) rfl (by rw [hml]; rfl) c7 (argsL := [.ref b, .int (Int32.ofNat o), .int (Int32.ofNat len)]) (rest := []) rfl rfl (by show 2 * 0 + 0 ≤ _; decide) (hb hbytes d36) (⟨rfl, hA.mv X5.warmed.alike hh5, l1, l2, hp⟩)
  obtain ⟨e8, z8⟩ := E8
  obtain ⟨rfl, N, n1, n2, n3, n4, n5, n6⟩ := NewArr.mv _ T5 s _ _ hh5.symm (Vm.Alike.refl _) rfl e8
  rw [hh5] at z8
  have hB1 := hB.keep X8.warmed.alike (n6 _ _ hB.1)
  have hne : s.heap.size ≠ a := (Nat.ne_of_lt (Array.getElem?_eq_some_iff.mp hB.1).1).symm
  have c9 : Steps p.tables e below (s₁.setTop (entryFrame m #[.ref a, .ref b, .int (Int32.ofNat o), .int (Int32.ofNat len), .null] 6)) (T8.setTop (mkF m 39 #[.val (.ref a), .val (.ref b), .val (.int (Int32.ofNat o)), .val (.int (Int32.ofNat len)), .val .null, .unset] [.ref s.heap.size])) := g8
  have c10 : Steps p.tables e below (s₁.setTop (entryFrame m #[.ref a, .ref b, .int (Int32.ofNat o), .int (Int32.ofNat len), .null] 6)) (T8.setTop (mkF m 45 #[.val (.ref a), .val (.ref b), .val (.int (Int32.ofNat o)), .val (.int (Int32.ofNat len)), .val .null, .val (.ref s.heap.size)] [.int (Int32.ofNat N.slots.size), .ref s.heap.size, .ref a])) := by
    have hc : Steps p.tables e below (s₁.setTop (entryFrame m #[.ref a, .ref b, .int (Int32.ofNat o), .int (Int32.ofNat len), .null] 6)) (T8.setTop (mkF m 45 #[.val (.ref a), .val (.ref b), .val (.int (Int32.ofNat o)), .val (.int (Int32.ofNat len)), .val .null, .val (.ref s.heap.size)] [.int (Int32.ofNat len), .ref s.heap.size, .ref a])) := c9.trans (by
      refine XS.astore X8.here hexec rfl (hb hbytes d39) rfl rfl rfl ?_
      refine XS.aloadN X8.here hexec rfl (hb hbytes d41) rfl rfl ?_
      refine XS.aload X8.here hexec rfl (hb hbytes d42) rfl rfl ?_
      refine XS.iloadN X8.here hexec rfl (hb hbytes d44) rfl ?_
      exact Steps.refl _)
    rw [n4]; exact hc
  obtain ⟨v11, T11, X11, E11, g11⟩ := X8.callS hexec (CodL.law l s.heap.size N) hown (wks W (staticW "java/lang/String" 47 CodL.yN)) (wk W CodL.tab) (W := 1) (Nat.le_of_ble_eq_true rfl) (Nat.le_of_ble_eq_true rfl) (Nat.le_refl _) (by show 0 + len + 0 ≤ len; omega) (g := (mkF m 45 #[.val (.ref a), .val (.ref b), .val (.int (Int32.ofNat o)), .val (.int (Int32.ofNat len)), .val .null, .val (.ref s.heap.size)] [.int (Int32.ofNat N.slots.size), .ref s.heap.size, .ref a])) rfl (by rw [hml]; rfl) c10 (argsL := [.ref s.heap.size, .int (Int32.ofNat N.slots.size)]) (rest := [.ref a]) rfl rfl (by show 2 * 0 + (1 + 0) ≤ _; decide) (hb hbytes d45) (⟨rfl, n1⟩)
  obtain ⟨rfl, q11⟩ := E11
  have hB11 := hB1.mv (X8.warmed.alike.symm.trans X11.warmed.alike) q11
  have c12 : Steps p.tables e below (s₁.setTop (entryFrame m #[.ref a, .ref b, .int (Int32.ofNat o), .int (Int32.ofNat len), .null] 6)) (T11.setTop (mkF m 48 #[.val (.ref a), .val (.ref b), .val (.int (Int32.ofNat o)), .val (.int (Int32.ofNat len)), .val .null, .val (.ref s.heap.size)] [.int 0, .ref a])) := g11
  obtain ⟨T13, X13, p13, bl13, sl13, st13⟩ := X11.finit hexec hown (wk W (.fieldLink "java/lang/String" 15 "java/lang/String" "coder" "B")) (Or.inr ⟨_, (wk W (.laysFinal "java/lang/String" "java/lang/String" "coder" "B"))⟩) (Or.inl ⟨rfl, hnm⟩) f2 (Or.inl rfl) hB11 (t := .byte) (by decide +kernel) rfl (g := (mkF m 48 #[.val (.ref a), .val (.ref b), .val (.int (Int32.ofNat o)), .val (.int (Int32.ofNat len)), .val .null, .val (.ref s.heap.size)] [.int 0, .ref a])) rfl (rest := []) rfl (hb hbytes d48)
  have c14 : Steps p.tables e below (s₁.setTop (entryFrame m #[.ref a, .ref b, .int (Int32.ofNat o), .int (Int32.ofNat len), .null] 6)) (T13.setTop (mkF m 54 #[.val (.ref a), .val (.ref b), .val (.int (Int32.ofNat o)), .val (.int (Int32.ofNat len)), .val .null, .val (.ref s.heap.size)] [.ref s.heap.size, .ref a])) := (c12.trans (st13 _ (Steps.refl _))).trans (by
    refine XS.aloadN X13.here hexec rfl (hb hbytes d51) rfl rfl ?_
    refine XS.aload X13.here hexec rfl (hb hbytes d52) rfl rfl ?_
    exact Steps.refl _)
  obtain ⟨T15, X15, p15, bl15, sl15, st15⟩ := X13.finit hexec hown (wk W (.fieldLink "java/lang/String" 9 "java/lang/String" "value" "[B")) (Or.inr ⟨_, (wk W (.laysFinal "java/lang/String" "java/lang/String" "value" "[B"))⟩) (Or.inl ⟨rfl, hnm⟩) f1 (Or.inl rfl) bl13 (t := (.array .byte)) (by decide +kernel) rfl (g := (mkF m 54 #[.val (.ref a), .val (.ref b), .val (.int (Int32.ofNat o)), .val (.int (Int32.ofNat len)), .val .null, .val (.ref s.heap.size)] [.ref s.heap.size, .ref a])) rfl (rest := []) rfl (hb hbytes d54)
  have c16 : Steps p.tables e below (s₁.setTop (entryFrame m #[.ref a, .ref b, .int (Int32.ofNat o), .int (Int32.ofNat len), .null] 6)) (T15.setTop (mkF m 57 #[.val (.ref a), .val (.ref b), .val (.int (Int32.ofNat o)), .val (.int (Int32.ofNat len)), .val .null, .val (.ref s.heap.size)] [])) := c14.trans (st15 _ (Steps.refl _))
  have ap := apart (Or.inr ⟨_, (wk W (.laysFinal "java/lang/String" "java/lang/String" "value" "[B"))⟩) (Or.inr ⟨_, (wk W (.laysFinal "java/lang/String" "java/lang/String" "coder" "B"))⟩) f1 f2 (t₁ := .array .byte) (t₂ := .byte) (by decide +kernel) (by decide +kernel) (by decide)
  have al := X8.warmed.alike.symm.trans X15.warmed.alike
  have n7 : T11.heap[s.heap.size]? = some N := by rw [q11]; exact n1.1
  exact ⟨T15, none, _, _, _, X15, by simp, rfl, by omega, (fun _ => rfl), ⟨rfl, _, N, bl15, ((Same.refl D _).set _ (by simp)).set _ (by simp), sl15, (Cell.slots_setSlot_ne _ ap).trans sl13, n1.keep al (p15.other hne (p13.other hne n7)), n2, by rw [al.findClass]; exact n3, n4, n5, fun y c h1 h2 => p15.other h1 (p13.other h1 (by rw [q11]; exact n6 y c h2)), by rw [p15.2.2, p13.2.2, q11]; exact z8⟩, fun fs hl => c16.trans (X15.returnOut hexec hret (hb hbytes d57) hl)⟩
end New4
namespace New1
def yN : MethodName := ⟨"java/lang/String", "<init>", "([C)V"⟩
abbrev yB : ByteArray := jdk_42_method_3_code
theorem d0 : decode yB 0 = .ok (.aload_n 0, 1) := by decide +kernel
theorem d1 : decode yB 1 = .ok (.aload_n 1, 1) := by decide +kernel
theorem d2 : decode yB 2 = .ok (.iconst 0, 1) := by decide +kernel
theorem d3 : decode yB 3 = .ok (.aload_n 1, 1) := by decide +kernel
theorem d4 : decode yB 4 = .ok (.arraylength, 1) := by decide +kernel
theorem d5 : decode yB 5 = .ok (.aconst_null, 1) := by decide +kernel
theorem d6 : decode yB 6 = .ok (.invokespecial 27, 3) := by decide +kernel
theorem d9 : decode yB 9 = .ok (.return_, 1) := by decide +kernel
def site : List Cond := [New4.tab] ++ initW "java/lang/String" 27 New4.yN
def tab : Cond := tabOf yN yB 2 none site
def P (a : Addr) (D : Cell) (fV fC : Field) (b : Addr) (A : Cell) (z : Int32) (args : Array Value) (s : State) : Prop := args = #[.ref a, .ref b] ∧ Blank "java/lang/String" a D s ∧ Found "java/lang/String" "value" "[B" fV s ∧ Found "java/lang/String" "coder" "B" fC s ∧ Ch b A s ∧ StaticIs s "java/lang/String" "COMPACT_STRINGS" "Z" (.int z) ∧ ¬ z = 0 ∧ 0 < A.slots.size ∧ A.slots.size ≤ 536870912 ∧ ∀ i, i < A.slots.size → ¬ 255 < cv A i
def E (a : Addr) (D : Cell) (fV fC : Field) (A : Cell) (r : Option Value) (s u : State) : Prop := Got a D fV fC A 0 A.slots.size r s u
/-- new String(chars), not empty, no char above 255: a Latin-1 String of their low bytes -/
theorem law (l : Launch) (a : Addr) (D : Cell) (fV fC : Field) (b : Addr) (A : Cell) (z : Int32) : Law l yN 2 1 3 52 yB 2 none site (P a D fV fC b A z) (E a D fV fC A) [⟨a, fC.slot⟩, ⟨a, fV.slot⟩] 1 A.slots.size := by
  refine Law.of_walk (plainFor_of_name (by decide +kernel)) (by decide +kernel) (by decide +kernel) (by decide) (fun _ _ h => by rw [h.1]; rfl) (fun _ U U' hal hh h => ⟨h.1, h.2.1.mv hal hh, h.2.2.1.al hal, h.2.2.2.1.al hal, h.2.2.2.2.1.mv hal hh, h.2.2.2.2.2.1.there hal hh, h.2.2.2.2.2.2⟩) (fun r U U' V V' h1 hal h2 h => Got.mv r U U' V V' h1 hal h2 h) ?_
  intro p e s m args below meth c s₁ X0 hexec hbytes hml hret hlk hnm hown hh0 W hP
  obtain ⟨rfl, hB, f1, f2, hA, s1, hz, l0, l2, hp⟩ := hP
  have c1 : Steps p.tables e below (s₁.setTop (entryFrame m #[.ref a, .ref b] 2)) (s₁.setTop (mkF m 0 #[.val (.ref a), .val (.ref b)] [])) := entry rfl
  have c2 : Steps p.tables e below (s₁.setTop (entryFrame m #[.ref a, .ref b] 2)) (s₁.setTop (mkF m 6 #[.val (.ref a), .val (.ref b)] [.null, .int (Int32.ofNat A.slots.size), .int 0, .ref b, .ref a])) := c1.trans (by
    refine XS.aloadN X0.here hexec rfl (hb hbytes d0) rfl rfl ?_
    refine XS.aloadN X0.here hexec rfl (hb hbytes d1) rfl rfl ?_
    refine iconstV X0.here hexec rfl 0 (hb hbytes d2) (by decide) ?_
    refine XS.aloadN X0.here hexec rfl (hb hbytes d3) rfl rfl ?_
    refine X0.alen hexec (hA.1.mv X0.warmed.alike hh0) rfl rfl (hb hbytes d4) ?_
    refine XS.aconstNull X0.here hexec rfl (hb hbytes d5) ?_
    exact Steps.refl _)
  obtain ⟨v3, T3, X3, E3, g3⟩ := X0.callN hexec (New4.law l a D fV fC b A z 0 A.slots.size) rfl hown (wks W (initW "java/lang/String" 27 New4.yN)) (W New4.tab (by simp only [site, List.mem_cons, List.mem_append, true_or, or_true])) (W := 0) (Nat.le_of_ble_eq_true rfl) (Nat.le_of_ble_eq_true rfl) (Nat.le_refl _) (by show 0 + A.slots.size ≤ A.slots.size; omega) (g := (mkF m 6 #[.val (.ref a), .val (.ref b)] [.null, .int (Int32.ofNat A.slots.size), .int (Int32.ofNat 0), .ref b, .ref a])) rfl (by rw [hml]; rfl) c2 (argsL := [.ref b, .int (Int32.ofNat 0), .int (Int32.ofNat A.slots.size), .null]) (rest := []) rfl rfl (by show 2 * 0 + 0 ≤ _; decide) (hb hbytes d6) (⟨rfl, hB.mv X0.warmed.alike hh0, f1.al X0.warmed.alike, f2.al X0.warmed.alike, hA.mv X0.warmed.alike hh0, s1.there X0.warmed.alike hh0, hz, l0, by omega, l2, fun i hi => by rw [Nat.zero_add]; exact hp i hi⟩)
  have e0 := Got.mv _ s₁ s _ _ hh0.symm (Vm.Alike.refl _) rfl E3
  obtain rfl := e0.1
  have c4 : Steps p.tables e below (s₁.setTop (entryFrame m #[.ref a, .ref b] 2)) (T3.setTop (mkF m 9 #[.val (.ref a), .val (.ref b)] [])) := g3
  exact ⟨T3, none, _, _, _, X3, by simp, rfl, by omega, (fun _ => rfl), e0, fun fs hl => c4.trans (X3.returnOut hexec hret (hb hbytes d9) hl)⟩
theorem pays {l : Launch} {R : Room} {p : Program} {e : Env} {below : List Frame} {s : State} {sargs : Array Value} {len W : Nat} (a : Addr) (D : Cell) (fV fC : Field) (b : Addr) (A : Cell) (z : Int32) (htab : tab.before sargs s = true) (hfr : 4 ≤ R.frames) (hlo : W + 65 ≤ R.locals) :
    Back l R p e below s sargs yN len W (fun A₁ a₁ => A₁.cells + 1 ≤ R.cells ∧ A₁.slots + A.slots.size ≤ R.slots ∧ P a D fV fC b A z a₁ A₁.U) (fun A₁ _ v₁ B₁ => E a D fV fC A v₁ A₁.U B₁.U ∧ B₁.locs = A₁.locs ++ [⟨a, fC.slot⟩, ⟨a, fV.slot⟩] ∧ B₁.cells = A₁.cells + 1 ∧ B₁.slots = A₁.slots + A.slots.size) :=
  (law l a D fV fC b A z).pays htab hfr (by omega)
end New1
/-- the byte, read back as charAt reads it, is the char -/
theorem lo8_mask {x : Int32} (h0 : ¬ x < 0) (h1 : ¬ 255 < x) : lo8 x &&& 255 = x := by
  have t : ∀ k : Fin 256, lo8 (Int32.ofNat k.val) &&& 255 = Int32.ofNat k.val := by decide +kernel
  rw [Int32.lt_iff_toInt_lt] at h0 h1
  have e0 : (0 : Int32).toInt = 0 := rfl
  have e1 : (255 : Int32).toInt = 255 := rfl
  obtain ⟨k, hk⟩ : ∃ k : Nat, x.toInt = k := ⟨x.toInt.toNat, by omega⟩
  have hx : x = Int32.ofNat k := Int32.toInt_inj.mp (by rw [hk, Int32.toInt_ofNat_small (by omega)])
  rw [hx]
  exact t ⟨k, by omega⟩
end StrChars
namespace StrChars.Road
open Jvm Sem ClassFile Op Lib Jvm.Stand Jvm.Free Jvm.Free.XT
open Jvm.Lib.Cold (StaticIs)
abbrev ST : String := "java/lang/String"
/-- every table word that New1's law asks, flat -/
abbrev words : List Jvm.Cond := [.code New1.yN New1.yB 2 none, .initialized ST, .methodLink ST 27 New4.yN, .instanceMethod New4.yN,
  .code New4.yN New4.yB 6 none, .fieldLink ST 38 ST "COMPACT_STRINGS" "Z", .laysFinal ST ST "value" "[B", .fieldLink ST 9 ST "value" "[B", .laysFinal ST ST "coder" "B", .fieldLink ST 15 ST "coder" "B",
  .methodLink ST 1 Lib.objectInit, .instanceMethod Lib.objectInit, .code Lib.objectInit ⟨#[0xb1]⟩ 1 none, .methodLink ST 177 Cmp3.yN, .static Cmp3.yN, .methodLink ST 47 CodL.yN, .static CodL.yN,
  .code Cmp3.yN Cmp3.yB 6 (some (.array .byte)), .initialized U16, .arrayClass .byte, .methodLink U16 115 Cmp5.yN, .static Cmp5.yN, .code Cmp5.yN Cmp5.yB 7 (some .int), .code CodL.yN CodL.yB 2 (some .byte)]
theorem tab_of {a : Array Value} {s : State} (h : ∀ w ∈ words, w.before a s = true) : New1.tab.before a s = true := by
  have h5 : Cmp5.tab.before a s = true := unparts (wk h (.code Cmp5.yN Cmp5.yB 7 (some .int))) (wks h (.initialized Cmp5.yN.cls :: Cmp5.site))
  have hc : CodL.tab.before a s = true := unparts (wk h (.code CodL.yN CodL.yB 2 (some .byte))) (wks h (.initialized CodL.yN.cls :: CodL.site))
  have q5 : ∀ w ∈ Cmp5.tab :: words, w.before a s = true := fun w hw => (List.mem_cons.mp hw).elim (fun e => e ▸ h5) (h w)
  have h3 : Cmp3.tab.before a s = true := unparts (wk q5 (.code Cmp3.yN Cmp3.yB 6 (some (.array .byte)))) (wks q5 (.initialized Cmp3.yN.cls :: Cmp3.site))
  have q3 : ∀ w ∈ Cmp3.tab :: CodL.tab :: words, w.before a s = true := fun w hw => (List.mem_cons.mp hw).elim (fun e => e ▸ h3) fun hw => (List.mem_cons.mp hw).elim (fun e => e ▸ hc) (h w)
  have h4 : New4.tab.before a s = true := unparts (wk q3 (.code New4.yN New4.yB 6 none)) (wks q3 (.initialized New4.yN.cls :: New4.site))
  have q4 : ∀ w ∈ New4.tab :: words, w.before a s = true := fun w hw => (List.mem_cons.mp hw).elim (fun e => e ▸ h4) (h w)
  exact unparts (wk q4 (.code New1.yN New1.yB 2 none)) (wks q4 (.initialized New1.yN.cls :: New1.site))
/-- the words ride from the start Z to the walk's own state -/
theorem moved {Z s : State} {a0 args : Array Value} (hZ : Z.Warmed39 s.vm) (hw : ∀ d ∈ words, d.before a0 Z = true) : ∀ d ∈ words, d.before args s = true := fun d hd => by
  have q := hw d hd
  have t : ∀ d ∈ words, d = .arrayClass .byte ∨ (d.onTables && d.keepsFace) = true := by decide +kernel
  rcases t d hd with rfl | t
  · exact RoadKit.mvA hZ q
  · exact RoadKit.mv hZ q t
/-- WHAT COMES BACK, over the tables of the start Z: h the heap at the call, h' behind it -/
def Q (Z : State) (x : Addr) (A : Cell) (h : Heap) (v : Option Value) (h' : Heap) (L : List Loc) : Prop := v = none ∧ (∀ y ∈ L, y.base = x) ∧ RoadKit.Keep h h' [x] ∧ h'.size = h.size + 1 ∧ RoadKit.Exa Z h' x ST ∧ RoadKit.Fld Z h' x ST "value" "[B" (.ref h.size) ∧ RoadKit.Fld Z h' x ST "coder" "B" (.int 0) ∧
  (∃ V : Cell, RoadKit.Arr Z h' h.size V .byte ∧ V.vm = .none ∧ Z.vm.findClass "[B" = some V.cls ∧ V.slots.size = A.slots.size ∧ ∀ j, j < A.slots.size → V.slots[j]? = some (.int (lo8 (cv A j)))) ∧
  ∀ (O n d : String) (w : Value), RoadKit.Fld Z h x O n d w → RoadKit.slotOf Z O n d ≠ RoadKit.slotOf Z ST "value" "[B" → RoadKit.slotOf Z O n d ≠ RoadKit.slotOf Z ST "coder" "B" → RoadKit.Fld Z h' x O n d w
/-- **new String(chars) AT A CALL, IN THE ROAD'S FORM**: for specialBack behind newO: x the fresh String, b the char[] with the cell A -/
theorem back {p : Program} {l : Launch} {e : Env} {R : Room} {s : State} {args : Array Value} {below : List Frame} {len W : Nat} {Z : State} {a0 : Array Value} {h : Heap} (hZ : Z.Warmed39 s.vm) (hw : ∀ d ∈ words, d.before a0 Z = true) {kI : Nat} (wi : (Jvm.Cond.instantiable ST kI).before a0 Z = true)
    {x b : Addr} {A : Cell} {z : Int32} {v0 c0 : Value} (E : RoadKit.Exa Z h x ST) (V : RoadKit.Fld Z h x ST "value" "[B" v0) (C : RoadKit.Fld Z h x ST "coder" "B" c0) (K : RoadKit.Arr Z h b A .char) (hty : Typed .char A) (S : RoadKit.Sta Z h ST "COMPACT_STRINGS" "Z" (.int z)) (hz : ¬ z = 0)
    (l0 : 0 < A.slots.size) (l2 : A.slots.size ≤ 536870912) (hp : ∀ i, i < A.slots.size → ¬ 255 < cv A i) (hfr : 4 ≤ R.frames) (hlo : W + 65 ≤ R.locals) :
    Back l R p e below s args New1.yN len W (fun P a => a = #[.ref x, .ref b] ∧ P.U.heap = h ∧ P.cells + 1 ≤ R.cells ∧ P.slots + A.slots.size ≤ R.slots)
      (fun P _ v B => ∃ L, Q Z x A h v B.U.heap L ∧ B.locs = P.locs ++ L ∧ B.cells = P.cells + 1 ∧ B.slots = P.slots + A.slots.size) := by
  intro m meth c P g ig mk a X hg hsize hdg hW hn hp'
  obtain ⟨rfl, rfl, r1, r2⟩ := hp'
  have al : Z.vm.Alike P.U.vm := hZ.alike.trans X.warmed.alike
  obtain ⟨D, cfV, kV, iV, fV, hD, gV, stV, knV, obV, asV, slV⟩ := id V
  obtain ⟨D', cfC, kC, iC, fC, hD', gC, stC, -, -, asC, slC⟩ := id C
  cases hD.symm.trans hD'
  obtain ⟨D2, kD, e1, e2, e3, e4, e5⟩ := id E
  cases hD.symm.trans e1
  obtain ⟨c2, k2, i1, i2, i3, -⟩ := Cond.instantiable_spec wi
  cases e2.symm.trans i1
  cases e3.symm.trans i2
  obtain ⟨kU, u1, u2⟩ := al.2.2 _ _ e3
  have hB : Blank ST x D P.U := ⟨hD, ⟨knV, fun q hq => by rw [hq] at obV; cases obV⟩, by rw [al.findClass]; exact e2, kU, u1, by rw [u2]; exact i3, by rw [u2]; exact e5 i3⟩
  have F1 : Found ST "value" "[B" fV P.U := ⟨SBG.found_only al ⟨cfV, kV, iV, gV⟩, stV⟩
  have F2 : Found ST "coder" "B" fC P.U := ⟨SBG.found_only al ⟨cfC, kC, iC, gC⟩, stC⟩
  have hA : Ch b A P.U := ⟨⟨K.1, State.isArrayOf_alike al K.2.1, K.2.2, by omega⟩, hty⟩
  have hS : StaticIs P.U ST "COMPACT_STRINGS" "Z" (.int z) := by
    obtain ⟨cfS, iS, kS, fS, st, cS, t1, t2, t3, t4, t5, t6, t7⟩ := S
    exact StaticIs.there (s := { Z with heap := P.U.heap }) ⟨cfS, iS, kS, fS, st, cS, t1, t2, t3, t4, t5, (fun q => by rw [q] at t6; cases t6), t7⟩ al rfl
  obtain ⟨v, B, X', ⟨⟨hv, E', V', q1, q2, q3, q4, q5, q6, q7, q8, q9, q10, q11⟩, hl, hc, hs⟩, st⟩ := New1.pays x D fV fC b A z (tab_of (moved hZ hw)) hfr hlo m meth c P g ig mk _ X hg hsize hdg hW hn ⟨r1, r2, rfl, hB, F1, F2, hA, hS, hz, l0, l2, hp⟩
  have al' : Z.vm.Alike B.U.vm := hZ.alike.trans X'.warmed.alike
  have hsz : E'.slots.size = D.slots.size := by
    obtain ⟨-, -, -, kB, w1, w2, w3⟩ := q1
    obtain ⟨kB', y1, y2⟩ := al'.2.2 _ _ e3
    rw [q2.2.1] at w1
    cases w1.symm.trans y1
    rw [w3, e5 i3, y2]
  refine ⟨v, B, X', ⟨_, ⟨hv, ?_, ⟨by omega, fun y cy hy hn' => q10 y cy (by simpa using hn') hy, fun y cy hy => ?_⟩, q11, ⟨E', _, q1.1, by rw [q2.2.1]; exact e2, by rw [q2.2.1]; exact e3, by rw [q2.1]; exact obV, fun _ => by rw [hsz]; exact e5 i3⟩,
    ⟨E', cfV, kV, iV, fV, q1.1, gV, stV, by rw [q2.1]; exact knV, by rw [q2.1]; exact obV, by rw [q2.2.1]; exact asV, q3⟩, ⟨E', cfC, kC, iC, fC, q1.1, gC, stC, by rw [q2.1]; exact knV, by rw [q2.1]; exact obV, by rw [q2.2.1]; exact asC, q4⟩,
    ⟨V', ⟨q5.1, State.isArrayOf_alike al'.symm q5.2.1, q5.2.2.1⟩, q6, by rw [← al'.findClass]; exact q7, q8, fun j hj => by have := q9 j hj; rwa [Nat.zero_add] at this⟩, fun O n d w F n1 n2 => ?_⟩, hl, hc, hs⟩, st⟩
  · intro y hy
    simp only [List.mem_cons, List.not_mem_nil, or_false] at hy
    rcases hy with rfl | rfl <;> rfl
  · by_cases q : y = x
    · subst q
      cases hD.symm.trans hy
      exact ⟨E', q1.1, q2.2.1, q2.1, hsz⟩
    · exact ⟨cy, q10 y cy q hy, rfl, rfl, rfl⟩
  · obtain ⟨D3, cf, k, i, f, g1, g2, g3, g4, g5, g6, g7⟩ := F
    cases hD.symm.trans g1
    simp only [RoadKit.slotOf, g2, gV, gC, Option.map_some, Option.getD_some] at n1 n2
    exact ⟨E', cf, k, i, f, q1.1, g2, g3, by rw [q2.1]; exact g4, by rw [q2.1]; exact g5, by rw [q2.2.1]; exact g6, by rw [q2.2.2 f.slot (by simp [n1, n2])]; exact g7⟩
end StrChars.Road
namespace StrChars.Road
open Jvm Sem ClassFile Op Lib Jvm.Stand Jvm.Free Jvm.Free.XT
/-- WHAT COMES BACK, the byte[] as a list of values -/
def QA (Z : State) (x : Addr) (zn : Int32) (cs : List Int32) (h : Heap) (v : Option Value) (h' : Heap) (L : List Loc) : Prop := v = none ∧ (∀ y ∈ L, y.base = x) ∧ RoadKit.Keep h h' [x] ∧ h'.size = h.size + 1 ∧ RoadKit.Exa Z h' x ST ∧ RoadKit.Fld Z h' x ST "value" "[B" (.ref h.size) ∧ RoadKit.Fld Z h' x ST "coder" "B" (.int 0) ∧
  (∃ kb, Z.vm.findClass "[B" = some kb ∧ RoadKit.Arv Z h' h.size kb .byte zn (cs.map fun c => .int (lo8 c)) (.int 0)) ∧
  ∀ (O n d : String) (w : Value), RoadKit.Fld Z h x O n d w → RoadKit.slotOf Z O n d ≠ RoadKit.slotOf Z ST "value" "[B" → RoadKit.slotOf Z O n d ≠ RoadKit.slotOf Z ST "coder" "B" → RoadKit.Fld Z h' x O n d w
/-- **new String(chars) AT A CALL, THE ARRAYS AS LISTS**: the char[] at b holds cs, not empty, no char above 255 -/
theorem backArv {p : Program} {l : Launch} {e : Env} {R : Room} {s : State} {args : Array Value} {below : List Frame} {len W : Nat} {Z : State} {a0 : Array Value} {h : Heap} (hZ : Z.Warmed39 s.vm) (hw : ∀ d ∈ words, d.before a0 Z = true) {kI : Nat} (wi : (Jvm.Cond.instantiable ST kI).before a0 Z = true)
    {x b : Addr} {k : ClassId} {zn z : Int32} {cs : List Int32} {dv v0 c0 : Value} (E : RoadKit.Exa Z h x ST) (V : RoadKit.Fld Z h x ST "value" "[B" v0) (C : RoadKit.Fld Z h x ST "coder" "B" c0) (K : RoadKit.Arv Z h b k .char zn (cs.map Value.int) dv) (S : RoadKit.Sta Z h ST "COMPACT_STRINGS" "Z" (.int z)) (hz : ¬ z = 0)
    (hlen : zn.toNatClampNeg = cs.length) (h0 : 0 < cs.length) (hbig : cs.length ≤ 536870912) (hall : ∀ c ∈ cs, ¬ 255 < c) (hfr : 4 ≤ R.frames) (hlo : W + 65 ≤ R.locals) :
    Back l R p e below s args New1.yN len W (fun P a => a = #[.ref x, .ref b] ∧ P.U.heap = h ∧ P.cells + 1 ≤ R.cells ∧ P.slots + cs.length ≤ R.slots)
      (fun P _ v B => ∃ L, QA Z x zn cs h v B.U.heap L ∧ B.locs = P.locs ++ L ∧ B.cells = P.cells + 1 ∧ B.slots = P.slots + cs.length) := by
  obtain ⟨A, K1, K2, K3, K4, K5, K6⟩ := K
  have e : A.slots.size = cs.length := K3.trans hlen
  have hat : ∀ (i : Nat) (hi : i < cs.length), A.slots[i]? = some (.int cs[i]) := fun i hi => by rw [K5 i (by omega)]; simp [List.getD_eq_getElem?_getD, hi]
  have hcv : ∀ (i : Nat) (hi : i < cs.length), cv A i = cs[i] := fun i hi => by unfold cv; rw [hat i hi]
  have hty : Typed .char A := fun i v hv => by
    have hi : i < A.slots.size := (Array.getElem?_eq_some_iff.mp hv).1
    have q := K5 i hi
    rw [hv] at q
    rw [Option.some.inj q]
    exact K6 i hi
  refine Back.mono (back hZ hw wi E V C K1 hty S hz (by omega) (by omega) (fun i hi => by rw [hcv i (by omega)]; exact hall _ (List.getElem_mem _)) hfr hlo) (fun P a hp => ⟨hp.1, hp.2.1, hp.2.2.1, by rw [e]; exact hp.2.2.2⟩) (fun P a v B hp hq => ?_)
  obtain ⟨L, ⟨q1, q2, q3, q4, q5, q6, q7, ⟨V', v1, v2, v3, v4, v5⟩, q9⟩, hl, hc, hs⟩ := hq
  refine ⟨L, ⟨q1, q2, q3, q4, q5, q6, q7, ⟨V'.cls, v3, V', v1, rfl, by rw [v4, e, hlen], K4, fun i hi => ?_, fun i hi => ?_⟩, q9⟩, hl, hc, by rw [hs, e]⟩
  · have hi' : i < cs.length := by omega
    rw [v5 i (by omega), hcv i hi']; simp [List.getD_eq_getElem?_getD, hi']
  · have hi' : i < cs.length := by omega
    simp only [List.getD_eq_getElem?_getD, List.getElem?_map, List.getElem?_eq_getElem hi', Option.map_some, Option.getD_some]
    exact fits_lo8 _
end StrChars.Road
namespace StrChars.Road
open Jvm Sem ClassFile Op Lib Jvm.Stand Jvm.Free Jvm.Free.XT
/-- WHAT COMES BACK, in the writer's own shape -/
def QV (Z : State) (x : Addr) (N : Int32) (bs : List Int32) (h : Heap) (n0 : Nat) (v : Option Value) (h' : Heap) (L : List Loc) : Prop := v = none ∧ RoadKit.Fr n0 L ∧ RoadKit.Keep h h' [x] ∧ RoadKit.Exa Z h' x ST ∧ RoadKit.Fld Z h' x ST "coder" "B" (.int 0) ∧
  ∃ (t : Addr) (kb : ClassId), n0 ≤ t ∧ h.size ≤ t ∧ ¬ t = x ∧ RoadKit.Fld Z h' x ST "value" "[B" (.ref t) ∧ RoadKit.Arv Z h' t kb .byte N (bs.map Value.int) (.int 0)
/-- **new String(chars) AT A CALL, FOR THE WRITER**: a char[] of n known ints, each 0 to 255 -/
theorem backV {p : Program} {l : Launch} {e : Env} {R : Room} {s : State} {args : Array Value} {below : List Frame} {len W : Nat} {Z : State} {a0 : Array Value} {h : Heap} (hZ : Z.Warmed39 s.vm) (hw : ∀ d ∈ words, d.before a0 Z = true) {kI : Nat} (wi : (Jvm.Cond.instantiable ST kI).before a0 Z = true)
    {x b : Addr} {kC : ClassId} {cs bs : List Int32} {d v0 c0 : Value} {z N : Int32} {n n0 : Nat} (hx0 : n0 ≤ x) (hh0 : n0 ≤ h.size) (E : RoadKit.Exa Z h x ST) (V : RoadKit.Fld Z h x ST "value" "[B" v0) (C : RoadKit.Fld Z h x ST "coder" "B" c0) (K : RoadKit.Arv Z h b kC .char N (cs.map Value.int) d) (S : RoadKit.Sta Z h ST "COMPACT_STRINGS" "Z" (.int z)) (hz : ¬ z = 0)
    (hn : cs.length = n) (hN : N = Int32.ofNat n) (l0 : 0 < n) (l2 : n ≤ 4000) (hp : ∀ c ∈ cs, ¬ c < 0 ∧ ¬ (255 : Int32) < c) (hb : bs = cs.map (fun c => c.toInt8.toInt32)) (hfr : 4 ≤ R.frames) (hlo : W + 65 ≤ R.locals) :
    Back l R p e below s args (⟨"java/lang/String", "<init>", "([C)V"⟩ : MethodName) len W (fun P a => a = #[.ref x, .ref b] ∧ P.U.heap = h ∧ P.cells + 1 ≤ R.cells ∧ P.slots + n ≤ R.slots)
      (fun P _ v B => ∃ L, QV Z x N bs h n0 v B.U.heap L ∧ B.locs = P.locs ++ L ∧ B.cells = P.cells + 1 ∧ B.slots = P.slots + n) := by
  subst hn hN hb
  refine Back.mono (backArv hZ hw wi E V C K S hz (n32 (by omega)) l0 (by omega) (fun c hc => (hp c hc).2) hfr hlo) (fun P a hp => hp) (fun P a v B hp hq => ?_)
  obtain ⟨L, ⟨q1, q2, q3, q4, q5, q6, q7, ⟨kb, v1, v2⟩, q9⟩, hl, hc, hs⟩ := hq
  exact ⟨L, ⟨q1, fun y hy => by rw [q2 y hy]; exact hx0, q3, q5, q7, h.size, kb, hh0, Nat.le_refl _, Nat.ne_of_gt E.lt, q6, by rw [List.map_map]; exact v2⟩, hl, hc, hs⟩
end StrChars.Road
namespace StrChars
open Jvm Sem ClassFile Op Lib Jvm.Stand Jvm.Free.XT Jvm.Free.ALB Jvm.Free.JM Jvm.Free
open Jvm.Lib.Cold (StaticIs)
def hi8 (x : Int32) : Int32 := lo8 (x >>> ((8 : Int32) &&& 31))
/-- what StringUTF16.getChar makes of two bytes -/
def pairCh (u v : Int32) : Int32 := (((u &&& 255) <<< ((0 : Int32) &&& 31)) ||| ((v &&& 255) <<< ((8 : Int32) &&& 31))).toUInt32.toUInt16.toUInt32.toInt32
theorem lo8_and (x : Int32) : (lo8 x &&& 255).toBitVec.toNat = x.toBitVec.toNat % 256 := by
  have h : (lo8 x).toBitVec = (x.toBitVec.signExtend 8).signExtend 32 := by rw [lo8, Int8.toBitVec_toInt32, Int32.toBitVec_toInt8]
  rw [Int32.toBitVec_and, BitVec.toNat_and, h]
  have e : ((x.toBitVec.signExtend 8).signExtend 32).toNat % 256 = x.toBitVec.toNat % 256 := by
    rw [BitVec.toNat_signExtend]
    have hlt := x.toBitVec.isLt
    simp only [BitVec.toNat_setWidth, BitVec.toNat_signExtend]
    split <;> split <;> omega
  rw [← e]
  exact Nat.and_two_pow_sub_one_eq_mod _ 8
theorem pair_says {c : Int32} (h0 : ¬ c < 0) (h1 : ¬ 65535 < c) : pairCh (lo8 c) (hi8 c) = c := by
  rw [Int32.lt_iff_toInt_lt] at h0 h1
  have e0 : (0 : Int32).toInt = 0 := rfl
  have e1 : (65535 : Int32).toInt = 65535 := rfl
  have hc : c.toInt = c.toBitVec.toNat := by
    have := c.toBitVec.isLt
    have e : c.toInt = c.toBitVec.toInt := rfl
    rw [e] at h0 h1
    rw [e]
    rw [BitVec.toInt_eq_toNat_cond] at h0 h1 ⊢
    split at h0 <;> split <;> omega
  have hn : c.toBitVec.toNat < 65536 := by omega
  have a1 := lo8_and c
  have a2 : (hi8 c &&& 255).toBitVec.toNat = c.toBitVec.toNat / 256 := by
    rw [hi8, lo8_and]
    have e : ((8 : Int32) &&& 31) = 8 := by decide
    rw [e, Int32.toBitVec_shiftRight]
    have e2 : ((8 : Int32).toBitVec.smod 32) = 8#32 := by decide
    rw [e2, BitVec.sshiftRight_eq', BitVec.toNat_sshiftRight_of_msb_false (by rw [BitVec.msb_eq_false_iff_two_mul_lt]; omega)]
    show c.toBitVec.toNat >>> 8 % 256 = _
    rw [Nat.shiftRight_eq_div_pow]
    omega
  unfold pairCh
  apply Int32.toBitVec_inj.mp
  apply BitVec.eq_of_toNat_eq
  have f0 : ((0 : Int32) &&& 31) = 0 := by decide
  have f8 : ((8 : Int32) &&& 31) = 8 := by decide
  rw [f0, f8]
  have g : (((lo8 c &&& 255) <<< (0 : Int32)) ||| ((hi8 c &&& 255) <<< (8 : Int32))).toBitVec.toNat = c.toBitVec.toNat := by
    rw [Int32.toBitVec_or, Int32.toBitVec_shiftLeft, Int32.toBitVec_shiftLeft]
    have s0 : ((0 : Int32).toBitVec.smod 32) = 0#32 := by decide
    have s8 : ((8 : Int32).toBitVec.smod 32) = 8#32 := by decide
    rw [s0, s8, BitVec.toNat_or]
    simp only [BitVec.shiftLeft_eq', BitVec.toNat_shiftLeft, a1, a2]
    show (c.toBitVec.toNat % 256) <<< 0 % 2 ^ 32 ||| (c.toBitVec.toNat / 256) <<< 8 % 2 ^ 32 = _
    rw [Nat.shiftLeft_zero, Nat.mod_eq_of_lt (show c.toBitVec.toNat % 256 < 2 ^ 32 by omega), Nat.mod_eq_of_lt (show (c.toBitVec.toNat / 256) <<< 8 < 2 ^ 32 by rw [Nat.shiftLeft_eq]; omega), Nat.or_comm, ← Nat.shiftLeft_add_eq_or_of_lt (by omega), Nat.shiftLeft_eq]
    omega
  show BitVec.toNat (((((lo8 c &&& 255) <<< (0 : Int32)) ||| ((hi8 c &&& 255) <<< (8 : Int32))).toBitVec.setWidth 16).setWidth 32) = _
  rw [BitVec.toNat_setWidth, BitVec.toNat_setWidth, g]
  omega
end StrChars
namespace StrChars
open Jvm Sem ClassFile Op Lib Jvm.Stand Jvm.Free.XT Jvm.Free.ALB Jvm.Free.JM Jvm.Free
open Jvm.Lib.Cold (StaticIs)
/-- the array's cell V codes the n chars f 0 .. f (n - 1) by the coder cd, as the JDK does: coder 1 just where some char is above 255 -/
def Cod (cd : Int32) (n : Nat) (f : Nat → Int32) (V : Cell) : Prop := (cd = 0 ∧ V.slots.size = n ∧ ∀ j, j < n → V.slots[j]? = some (.int (lo8 (f j))) ∧ ¬ 255 < f j) ∨ (cd = 1 ∧ V.slots.size = 2 * n ∧ (∀ j, j < n → V.slots[2 * j]? = some (.int (lo8 (f j))) ∧ V.slots[2 * j + 1]? = some (.int (hi8 (f j)))) ∧ ∃ j, j < n ∧ 255 < f j)
/-- **x is a String of the n chars f 0 .. f (n - 1)**, Latin-1 or UTF-16; its array at t has the cell V -/
def Txt (x t : Addr) (V : Cell) (cd : Int32) (n : Nat) (f : Nat → Int32) (U : State) : Prop := Exact "java/lang/String" x U ∧ Has x "java/lang/String" "value" "[B" (.ref t) U ∧ Has x "java/lang/String" "coder" "B" (.int cd) U ∧ XT.Arr .byte t V U ∧ Cod cd n f V ∧ ∀ j, j < n → ¬ f j < 0 ∧ ¬ 65535 < f j
theorem Txt.mv {x t : Addr} {V : Cell} {cd : Int32} {n : Nat} {f : Nat → Int32} {U U' : State} (h : Txt x t V cd n f U) (hal : U.vm.Alike U'.vm) (hh : U'.heap = U.heap) : Txt x t V cd n f U' := ⟨h.1.mv hal hh, h.2.1.mv hal hh, h.2.2.1.mv hal hh, h.2.2.2.1.mv hal hh, h.2.2.2.2⟩
end StrChars
namespace StrChars.Road
open Jvm Sem ClassFile Op Lib Jvm.Stand Jvm.Free Jvm.Free.XT
open Jvm.Lib.Cold (StaticIs)
theorem consq {a : Array Value} {s : State} {c : Jvm.Cond} {L : List Jvm.Cond} (h0 : c.before a s = true) (h : ∀ w ∈ L, w.before a s = true) : ∀ w ∈ c :: L, w.before a s = true := fun w hw => (List.mem_cons.mp hw).elim (fun e => e ▸ h0) (h w)
/-- the bytes of the chars cs, low before high -/
def wideBytes : List Int32 → List Value
  | [] => []
  | c :: cs => .int (lo8 c) :: .int (hi8 c) :: wideBytes cs
theorem wide_lo (d : Value) : ∀ (cs : List Int32) (j : Nat), j < cs.length → (wideBytes cs).getD (2 * j) d = .int (lo8 (cs.getD j 0))
  | [], j, h => absurd h (Nat.not_lt_zero j)
  | c :: cs, 0, _ => rfl
  | c :: cs, j + 1, h => by
    have q := wide_lo d cs j (by simpa using h)
    rw [show 2 * (j + 1) = 2 * j + 1 + 1 from by omega]
    simpa [wideBytes] using q
theorem wide_hi (d : Value) : ∀ (cs : List Int32) (j : Nat), j < cs.length → (wideBytes cs).getD (2 * j + 1) d = .int (hi8 (cs.getD j 0))
  | [], j, h => absurd h (Nat.not_lt_zero j)
  | c :: cs, 0, _ => rfl
  | c :: cs, j + 1, h => by
    have q := wide_hi d cs j (by simpa using h)
    rw [show 2 * (j + 1) + 1 = 2 * j + 1 + 1 + 1 from by omega]
    simpa [wideBytes] using q
theorem low_at (d : Value) (cs : List Int32) (j : Nat) (h : j < cs.length) : (cs.map fun c => Value.int (lo8 c)).getD j d = .int (lo8 (cs.getD j 0)) := by
  simp [List.getD_eq_getElem?_getD, h]
/-- an array of N2 bytes vs codes the chars cs by the coder cd -/
def CodA (cs : List Int32) (cd N2 : Int32) (vs : List Value) : Prop := (cd = 0 ∧ N2 = Int32.ofNat cs.length ∧ vs = (cs.map fun c => Value.int (lo8 c)) ∧ ∀ c ∈ cs, ¬ 255 < c) ∨ (cd = 1 ∧ N2 = Int32.ofNat (2 * cs.length) ∧ vs = wideBytes cs ∧ ∃ c ∈ cs, 255 < c)
theorem CodA.cod {cs : List Int32} {cd N2 : Int32} {vs : List Value} {V : Cell} (h : CodA cs cd N2 vs) (hn : 2 * cs.length < 2 ^ 31) (hs : V.slots.size = N2.toNatClampNeg) (hv : RoadKit.Has V vs (.int 0)) : Cod cd cs.length (fun j => cs.getD j 0) V := by
  rcases h with ⟨rfl, rfl, rfl, h⟩ | ⟨rfl, rfl, rfl, c, hc, hw⟩
  · rw [n32 (by omega)] at hs
    exact Or.inl ⟨rfl, hs, fun j hj => ⟨by rw [hv j (by omega), low_at _ _ _ hj], by
      have e : cs.getD j 0 = cs[j] := by simp [List.getD_eq_getElem?_getD, hj]
      show ¬ 255 < cs.getD j 0
      rw [e]; exact h _ (List.getElem_mem _)⟩⟩
  · rw [n32 (by omega)] at hs
    obtain ⟨j, hj, rfl⟩ := List.getElem_of_mem hc
    exact Or.inr ⟨rfl, hs, fun j hj => ⟨by rw [hv _ (by omega), wide_lo _ _ _ hj], by rw [hv _ (by omega), wide_hi _ _ _ hj]⟩, j, hj, by
      have e : cs.getD j 0 = cs[j] := by simp [List.getD_eq_getElem?_getD, hj]
      show 255 < cs.getD j 0
      rw [e]; exact hw⟩
/-- an object of exactly java/lang/String, its two fields found: as the laws ask it -/
theorem strObj {Z U : State} {a0 : Array Value} {kI : Nat} (wi : (Jvm.Cond.instantiable ST kI).before a0 Z = true) (al : Z.vm.Alike U.vm) {x : Addr} {v0 c0 : Value} (E : RoadKit.Exa Z U.heap x ST) (V : RoadKit.Fld Z U.heap x ST "value" "[B" v0) (C : RoadKit.Fld Z U.heap x ST "coder" "B" c0) :
    ∃ (D : Cell) (fV fC : Field), Blank ST x D U ∧ Found ST "value" "[B" fV U ∧ Found ST "coder" "B" fC U ∧ D.slots[fV.slot]? = some v0 ∧ D.slots[fC.slot]? = some c0 ∧ RoadKit.slotOf Z ST "value" "[B" = fV.slot ∧ RoadKit.slotOf Z ST "coder" "B" = fC.slot := by
  obtain ⟨D, cfV, kV, iV, fV, hD, gV, stV, knV, obV, asV, slV⟩ := V
  obtain ⟨D', cfC, kC, iC, fC, hD', gC, stC, -, -, asC, slC⟩ := C
  cases hD.symm.trans hD'
  obtain ⟨D2, kD, e1, e2, e3, e4, e5⟩ := E
  cases hD.symm.trans e1
  obtain ⟨c2, k2, i1, i2, i3, -⟩ := Cond.instantiable_spec wi
  cases e2.symm.trans i1
  cases e3.symm.trans i2
  obtain ⟨kU, u1, u2⟩ := al.2.2 _ _ e3
  exact ⟨D, fV, fC, ⟨hD, ⟨knV, fun q hq => by rw [hq] at obV; cases obV⟩, by rw [al.findClass]; exact e2, kU, u1, by rw [u2]; exact i3, by rw [u2]; exact e5 i3⟩, ⟨SBG.found_only al ⟨cfV, kV, iV, gV⟩, stV⟩, ⟨SBG.found_only al ⟨cfC, kC, iC, gC⟩, stC⟩, slV, slC, by simp [RoadKit.slotOf, gV], by simp [RoadKit.slotOf, gC]⟩
theorem sta_is {Z U : State} (al : Z.vm.Alike U.vm) {C n d : String} {v : Value} (S : RoadKit.Sta Z U.heap C n d v) : StaticIs U C n d v := by
  obtain ⟨cfS, iS, kS, fS, st, cS, t1, t2, t3, t4, t5, t6, t7⟩ := S
  exact StaticIs.there (s := { Z with heap := U.heap }) ⟨cfS, iS, kS, fS, st, cS, t1, t2, t3, t4, t5, (fun q => by rw [q] at t6; cases t6), t7⟩ al rfl
end StrChars.Road
namespace StrChars
open Jvm Sem ClassFile Op Lib Jvm.Stand Jvm.Free.XT Jvm.Free.ALB Jvm.Free.JM Jvm.Free
open Jvm.Lib.Cold (StaticIs)
/-- what place i of a byte[]'s cell holds -/
def yv (A : Cell) (i : Nat) : Int32 := match A.slots[i]? with | some (.int x) => x | _ => 0
theorem yv_get {a : Addr} {A : Cell} {U : State} (h : XT.Arr .byte a A U) (ht : Typed .byte A) {i : Nat} (hi : i < A.slots.size) : A.slots[i]? = some (.int (yv A i)) := by
  have e := Array.getElem?_eq_getElem hi
  have f := ht i _ e
  unfold yv; rw [e]
  generalize A.slots[i] = v at f
  cases v <;> simp [fits] at f ⊢
/-- the two arrays are equal, place for place -/
def EqC (A B : Cell) : Prop := A.slots.size = B.slots.size ∧ ∀ i, i < A.slots.size → yv A i = yv B i
/-- a boolean that says whether p -/
def Says01 (q : Prop) (r : Option Value) (s u : State) : Prop := ∃ v : Int32, r = some (.int v) ∧ u.heap = s.heap ∧ ((v = 1 ∧ q) ∨ (v = 0 ∧ ¬ q))
theorem Says01.mv {q : Prop} : ∀ r (U U' V V' : State), U'.heap = U.heap → V.vm.Alike V'.vm → V'.heap = V.heap → Says01 q r U V → Says01 q r U' V' :=
  fun r U U' V V' h1 _ h2 ⟨v, a, b, c⟩ => ⟨v, a, by rw [h1, h2]; exact b, c⟩
namespace LEq
def yN : MethodName := ⟨"java/lang/StringLatin1", "equals", "([B[B)Z"⟩
abbrev yB : ByteArray := jdk_43_method_13_code
theorem d0 : decode yB 0 = .ok (.aload_n 0, 1) := by decide +kernel
theorem d1 : decode yB 1 = .ok (.arraylength, 1) := by decide +kernel
theorem d2 : decode yB 2 = .ok (.aload_n 1, 1) := by decide +kernel
theorem d3 : decode yB 3 = .ok (.arraylength, 1) := by decide +kernel
theorem d4 : decode yB 4 = .ok (.if_icmp (.ne) 30, 3) := by decide +kernel
theorem d7 : decode yB 7 = .ok (.iconst 0, 1) := by decide +kernel
theorem d8 : decode yB 8 = .ok (.istore_n 2, 1) := by decide +kernel
theorem d9 : decode yB 9 = .ok (.iload_n 2, 1) := by decide +kernel
theorem d10 : decode yB 10 = .ok (.aload_n 0, 1) := by decide +kernel
theorem d11 : decode yB 11 = .ok (.arraylength, 1) := by decide +kernel
theorem d12 : decode yB 12 = .ok (.if_icmp (.ge) 20, 3) := by decide +kernel
theorem d15 : decode yB 15 = .ok (.aload_n 0, 1) := by decide +kernel
theorem d16 : decode yB 16 = .ok (.iload_n 2, 1) := by decide +kernel
theorem d17 : decode yB 17 = .ok (.baload, 1) := by decide +kernel
theorem d18 : decode yB 18 = .ok (.aload_n 1, 1) := by decide +kernel
theorem d19 : decode yB 19 = .ok (.iload_n 2, 1) := by decide +kernel
theorem d20 : decode yB 20 = .ok (.baload, 1) := by decide +kernel
theorem d21 : decode yB 21 = .ok (.if_icmp (.eq) 5, 3) := by decide +kernel
theorem d24 : decode yB 24 = .ok (.iconst 0, 1) := by decide +kernel
theorem d25 : decode yB 25 = .ok (.ireturn, 1) := by decide +kernel
theorem d26 : decode yB 26 = .ok (.iinc 2 1, 3) := by decide +kernel
theorem d29 : decode yB 29 = .ok (.goto (-20), 3) := by decide +kernel
theorem d32 : decode yB 32 = .ok (.iconst 1, 1) := by decide +kernel
theorem d33 : decode yB 33 = .ok (.ireturn, 1) := by decide +kernel
theorem d34 : decode yB 34 = .ok (.iconst 0, 1) := by decide +kernel
theorem d35 : decode yB 35 = .ok (.ireturn, 1) := by decide +kernel
def site : List Cond := []
def tab : Cond := tabOf yN yB 3 (some .boolean) site
def P (a : Addr) (A : Cell) (b : Addr) (B : Cell) (args : Array Value) (s : State) : Prop := args = #[.ref a, .ref b] ∧ XT.Arr .byte a A s ∧ Typed .byte A ∧ XT.Arr .byte b B s ∧ Typed .byte B
/-- whether two byte[] are equal, place for place -/
theorem law (l : Launch) (a : Addr) (A : Cell) (b : Addr) (B : Cell) : Law l yN 2 2 0 0 yB 3 (some .boolean) site (P a A b B) (Says01 (EqC A B)) [] 0 0 := by
  refine Law.of_walk (plainFor_of_name (by decide +kernel)) (by decide +kernel) (by decide +kernel) (by decide) (fun _ _ h => by rw [h.1]; rfl) (fun _ U U' hal hh h => ⟨h.1, h.2.1.mv hal hh, h.2.2.1, h.2.2.2.1.mv hal hh, h.2.2.2.2⟩) (fun r U U' V V' h1 hal h2 h => Says01.mv r U U' V V' h1 hal h2 h) ?_
  intro p e s m args below meth c s₁ X0 hexec hbytes hml hret hlk hnm hown hh0 W hP
  obtain ⟨rfl, hA, tA, hB, tB⟩ := hP
  have a31 := hA.2.2.2
  have b31 := hB.2.2.2
  have hA0 := hA.mv X0.warmed.alike hh0
  have hB0 := hB.mv X0.warmed.alike hh0
  have c1 : Steps p.tables e below (s₁.setTop (entryFrame m #[.ref a, .ref b] 3)) (s₁.setTop (mkF m 0 #[.val (.ref a), .val (.ref b), .unset] [])) := entry rfl
  have c2 : Steps p.tables e below (s₁.setTop (entryFrame m #[.ref a, .ref b] 3)) (s₁.setTop (mkF m 4 #[.val (.ref a), .val (.ref b), .unset] [.int (Int32.ofNat B.slots.size), .int (Int32.ofNat A.slots.size)])) := c1.trans (by
    refine XS.aloadN X0.here hexec rfl (hb hbytes d0) rfl rfl ?_
    refine X0.alen hexec hA0 rfl rfl (hb hbytes d1) ?_
    refine XS.aloadN X0.here hexec rfl (hb hbytes d2) rfl rfl ?_
    refine X0.alen hexec hB0 rfl rfl (hb hbytes d3) ?_
    exact Steps.refl _)
  by_cases hs : A.slots.size = B.slots.size
  · have c3 : Steps p.tables e below (s₁.setTop (entryFrame m #[.ref a, .ref b] 3)) (s₁.setTop (mkF m 9 #[.val (.ref a), .val (.ref b), .val (.int 0)] [])) := c2.trans (by
      refine XS.icmpNo X0.here hexec rfl (hb hbytes d4) rfl (ii_ne_f (by rw [hs])) ?_
      refine iconstV X0.here hexec rfl 0 (hb hbytes d7) (by decide) ?_
      refine XS.istoreN X0.here hexec rfl (hb hbytes d8) rfl rfl ?_
      exact Steps.refl _)
    have loop : ∀ (r i : Nat), i + r = A.slots.size → (∀ j, j < i → yv A j = yv B j) → Steps p.tables e below (s₁.setTop (entryFrame m #[.ref a, .ref b] 3)) (s₁.setTop (mkF m 9 #[.val (.ref a), .val (.ref b), .val (.int (Int32.ofNat i))] [])) → ∃ (pc : Nat) (Ls : Array Slot) (v : Int32), (pc = 25 ∨ pc = 33) ∧ ((v = 1 ∧ EqC A B) ∨ (v = 0 ∧ ¬ EqC A B)) ∧ Steps p.tables e below (s₁.setTop (entryFrame m #[.ref a, .ref b] 3)) (s₁.setTop (mkF m pc Ls [.int v])) := by
      intro r
      induction r with
      | zero =>
        intro i hi he cl
        exact ⟨33, _, 1, Or.inr rfl, Or.inl ⟨rfl, hs, fun j hj => he j (by omega)⟩, cl.trans (by
          refine XS.iloadN X0.here hexec rfl (hb hbytes d9) rfl ?_
          refine XS.aloadN X0.here hexec rfl (hb hbytes d10) rfl rfl ?_
          refine X0.alen hexec hA0 rfl rfl (hb hbytes d11) ?_
          refine XS.icmpYes X0.here hexec rfl (pc0 := 12) rfl (hb hbytes d12) rfl (ii_ge_t (nlt32 (by omega) (by omega))) (by decide) rfl ?_
          refine iconstV X0.here hexec rfl 1 (hb hbytes d32) (by decide) ?_
          exact Steps.refl _)⟩
      | succ r ih =>
        intro i hi he cl
        have c4 : Steps p.tables e below (s₁.setTop (entryFrame m #[.ref a, .ref b] 3)) (s₁.setTop (mkF m 21 #[.val (.ref a), .val (.ref b), .val (.int (Int32.ofNat i))] [.int (yv B i), .int (yv A i)])) := cl.trans (by
          refine XS.iloadN X0.here hexec rfl (hb hbytes d9) rfl ?_
          refine XS.aloadN X0.here hexec rfl (hb hbytes d10) rfl rfl ?_
          refine X0.alen hexec hA0 rfl rfl (hb hbytes d11) ?_
          refine XS.icmpNo X0.here hexec rfl (hb hbytes d12) rfl (ii_ge_f (lt32 (by omega) (by omega))) ?_
          refine XS.aloadN X0.here hexec rfl (hb hbytes d15) rfl rfl ?_
          refine XS.iloadN X0.here hexec rfl (hb hbytes d16) rfl ?_
          refine X0.aget hexec hA0 rfl (yv_get hA tA (i := i) (by omega)) rfl rfl (hb hbytes d17) ?_
          refine XS.aloadN X0.here hexec rfl (hb hbytes d18) rfl rfl ?_
          refine XS.iloadN X0.here hexec rfl (hb hbytes d19) rfl ?_
          refine X0.aget hexec hB0 rfl (yv_get hB tB (i := i) (by omega)) rfl rfl (hb hbytes d20) ?_
          exact Steps.refl _)
        by_cases hv : yv A i = yv B i
        · have c5 : Steps p.tables e below (s₁.setTop (entryFrame m #[.ref a, .ref b] 3)) (s₁.setTop (mkF m 9 #[.val (.ref a), .val (.ref b), .val (.int (Int32.ofNat i + 1))] [])) := c4.trans (by
            refine XS.icmpYes X0.here hexec rfl (pc0 := 21) rfl (hb hbytes d21) rfl (ii_eq_t hv) (by decide) rfl ?_
            refine iincV X0.here hexec rfl 1 (hb hbytes d26) (by decide) rfl rfl ?_
            refine XS.goto X0.here hexec rfl (pc0 := 29) rfl (hb hbytes d29) (by decide) rfl ?_
            exact Steps.refl _)
          rw [succ32] at c5
          exact ih (i + 1) (by omega) (fun j hj => by
            by_cases e : j = i
            · rw [e]; exact hv
            · exact he j (by omega)) c5
        · exact ⟨25, _, 0, Or.inl rfl, Or.inr ⟨rfl, fun q => hv (q.2 i (by omega))⟩, c4.trans (by
            refine XS.icmpNo X0.here hexec rfl (hb hbytes d21) rfl (ii_eq_f hv) ?_
            refine iconstV X0.here hexec rfl 0 (hb hbytes d24) (by decide) ?_
            exact Steps.refl _)⟩
    obtain ⟨pc, Ls, v, hpc, hv, cz⟩ := loop A.slots.size 0 (by omega) (fun j hj => absurd hj (Nat.not_lt_zero j)) c3
    have nv : narrow .boolean (.int v) = .int v := by rcases hv with ⟨rfl, -⟩ | ⟨rfl, -⟩ <;> rfl
    rcases hpc with rfl | rfl
    · exact ⟨s₁, some (.int v), _, _, _, X0, rfl, rfl, rfl, (fun h => by cases h), ⟨v, rfl, hh0, hv⟩, fun fs hl => cz.trans (X0.ireturnOut hexec hret nv (Or.inr (Or.inl rfl)) (hb hbytes d25) hl)⟩
    · exact ⟨s₁, some (.int v), _, _, _, X0, rfl, rfl, rfl, (fun h => by cases h), ⟨v, rfl, hh0, hv⟩, fun fs hl => cz.trans (X0.ireturnOut hexec hret nv (Or.inr (Or.inl rfl)) (hb hbytes d33) hl)⟩
  · have c3 : Steps p.tables e below (s₁.setTop (entryFrame m #[.ref a, .ref b] 3)) (s₁.setTop (mkF m 35 #[.val (.ref a), .val (.ref b), .unset] [.int 0])) := c2.trans (by
      refine XS.icmpYes X0.here hexec rfl (pc0 := 4) rfl (hb hbytes d4) rfl (ii_ne_t (ne32 a31 b31 hs)) (by decide) rfl ?_
      refine iconstV X0.here hexec rfl 0 (hb hbytes d34) (by decide) ?_
      exact Steps.refl _)
    exact ⟨s₁, some (.int 0), _, _, _, X0, rfl, rfl, rfl, (fun h => by cases h), ⟨0, rfl, hh0, Or.inr ⟨rfl, fun q => hs q.1⟩⟩, fun fs hl => c3.trans (X0.ireturnOut hexec hret rfl (Or.inr (Or.inl rfl)) (hb hbytes d35) hl)⟩
end LEq
theorem Cod.ty {cd : Int32} {n : Nat} {f : Nat → Int32} {V : Cell} (h : Cod cd n f V) : Typed .byte V := fun i v hv => by
  have hi : i < V.slots.size := (Array.getElem?_eq_some_iff.mp hv).1
  rcases h with ⟨-, k1, k2⟩ | ⟨-, k1, k2, -⟩
  · rw [(k2 i (by omega)).1] at hv; cases hv; exact fits_lo8 _
  · rcases Nat.mod_two_eq_zero_or_one i with e | e
    · obtain ⟨j, rfl⟩ : ∃ j, i = 2 * j := ⟨i / 2, by omega⟩
      rw [(k2 j (by omega)).1] at hv; cases hv; exact fits_lo8 _
    · obtain ⟨j, rfl⟩ : ∃ j, i = 2 * j + 1 := ⟨i / 2, by omega⟩
      rw [(k2 j (by omega)).2] at hv; cases hv; exact fits_lo8 _
/-- the same text -/
def SameT (n : Nat) (f : Nat → Int32) (k : Nat) (g : Nat → Int32) : Prop := n = k ∧ ∀ j, j < n → f j = g j
theorem lo8_inj {x y : Int32} (h0 : ¬ x < 0) (h1 : ¬ 255 < x) (k0 : ¬ y < 0) (k1 : ¬ 255 < y) (h : lo8 x = lo8 y) : x = y := by
  rw [← lo8_mask h0 h1, ← lo8_mask k0 k1, h]
/-- arrays coded by one coder are equal just where the texts are -/
theorem Cod.eqv {cd : Int32} {n k : Nat} {f g : Nat → Int32} {V V' : Cell} (h : Cod cd n f V) (h' : Cod cd k g V') (hf : ∀ j, j < n → ¬ f j < 0 ∧ ¬ 65535 < f j) (hg : ∀ j, j < k → ¬ g j < 0 ∧ ¬ 65535 < g j) : EqC V V' ↔ SameT n f k g := by
  have yvv : ∀ {W : Cell} {i : Nat} {x : Int32}, W.slots[i]? = some (.int x) → yv W i = x := fun q => by unfold yv; rw [q]
  rcases h with ⟨rfl, k1, k2⟩ | ⟨rfl, k1, k2, -⟩
  · rcases h' with ⟨-, m1, m2⟩ | ⟨e, -⟩
    · constructor
      · rintro ⟨e1, e2⟩
        refine ⟨by omega, fun j hj => ?_⟩
        have q := e2 j (by omega)
        rw [yvv (k2 j hj).1, yvv (m2 j (by omega)).1] at q
        exact lo8_inj (hf j hj).1 (k2 j hj).2 (hg j (by omega)).1 (m2 j (by omega)).2 q
      · rintro ⟨rfl, e2⟩
        refine ⟨by omega, fun j hj => ?_⟩
        rw [yvv (k2 j (by omega)).1, yvv (m2 j (by omega)).1, e2 j (by omega)]
    · exact absurd e (by decide)
  · rcases h' with ⟨e, -⟩ | ⟨-, m1, m2, -⟩
    · exact absurd e (by decide)
    · constructor
      · rintro ⟨e1, e2⟩
        refine ⟨by omega, fun j hj => ?_⟩
        have q1 := e2 (2 * j) (by omega)
        have q2 := e2 (2 * j + 1) (by omega)
        rw [yvv (k2 j hj).1, yvv (m2 j (by omega)).1] at q1
        rw [yvv (k2 j hj).2, yvv (m2 j (by omega)).2] at q2
        rw [← pair_says (hf j hj).1 (hf j hj).2, ← pair_says (hg j (by omega)).1 (hg j (by omega)).2, q1, q2]
      · rintro ⟨rfl, e2⟩
        refine ⟨by omega, fun i hi => ?_⟩
        rcases Nat.mod_two_eq_zero_or_one i with e | e
        · obtain ⟨j, rfl⟩ : ∃ j, i = 2 * j := ⟨i / 2, by omega⟩
          rw [yvv (k2 j (by omega)).1, yvv (m2 j (by omega)).1, e2 j (by omega)]
        · obtain ⟨j, rfl⟩ : ∃ j, i = 2 * j + 1 := ⟨i / 2, by omega⟩
          rw [yvv (k2 j (by omega)).2, yvv (m2 j (by omega)).2, e2 j (by omega)]
/-- two codings differ: so do the texts -/
theorem Cod.dif {cd cd' : Int32} {n k : Nat} {f g : Nat → Int32} {V V' : Cell} (h : Cod cd n f V) (h' : Cod cd' k g V') (hne : ¬ cd = cd') : ¬ SameT n f k g := by
  rintro ⟨rfl, e⟩
  rcases h with ⟨rfl, -, k2⟩ | ⟨rfl, -, -, j, hj, hw⟩
  · rcases h' with ⟨rfl, -⟩ | ⟨-, -, -, j, hj, hw⟩
    · exact hne rfl
    · exact (k2 j hj).2 (by rw [e j hj]; exact hw)
  · rcases h' with ⟨-, -, m2⟩ | ⟨rfl, -⟩
    · exact (m2 j hj).2 (by rw [← e j hj]; exact hw)
    · exact hne rfl
/-- an object of exactly C is an instance of C -/
theorem cinst {p : Program} {l : Launch} {e : Env} {R : Room} {s : State} {m : MethodId} {args : Array Value} {below : List Frame} {meth : Method} {c : Code} {T : State} {locs : List Loc} {cells slots : Nat} (X : Stand p l e R s m args below meth c T locs cells slots) (hexec : p.tables.exec = Jvm.exec) {own C : String} {index : Nat} (hown : s.vm.findClass own = some m.cls) (hlink : (Cond.classLink own index C).before args s = true) {a : Addr} (hE : Exact C a T)
    {g : JFrame} (hg : g.method = m) {rest : List Value} (hstack : g.stack = .ref a :: rest) (hdg : decode c.code g.pc = .ok (.instanceof index, 3)) :
    ∃ T', Stand p l e R s m args below meth c T' locs cells slots ∧ T'.heap = T.heap ∧ ∀ target, Steps p.tables e below (T'.setTop { g with pc := g.pc + 3, stack := .int 1 :: rest }) target → Steps p.tables e below (T.setTop g) target := by
  obtain ⟨cB, h1, D, h2, h3, h4⟩ := hE
  have h1' : s.vm.findClass C = some cB := by rw [← X.warmed.alike.findClass]; exact h1
  obtain ⟨vm', X', st⟩ := X.instanceofYes hexec hown hlink h2 h4 h1' (by rw [h3]; exact Jvm.Free.SB.assignable_self _ _) hg hstack hdg
  exact ⟨_, X', rfl, st⟩
theorem cself {p : Program} {l : Launch} {e : Env} {R : Room} {s : State} {m : MethodId} {args : Array Value} {below : List Frame} {meth : Method} {c : Code} {T : State} {locs : List Loc} {cells slots : Nat} (X : Stand p l e R s m args below meth c T locs cells slots) (hexec : p.tables.exec = Jvm.exec) {own C : String} {index : Nat} (hown : s.vm.findClass own = some m.cls) (hlink : (Cond.classLink own index C).before args s = true) {a : Addr} (hE : Exact C a T)
    {g : JFrame} (hg : g.method = m) {rest : List Value} (hstack : g.stack = .ref a :: rest) (hdg : decode c.code g.pc = .ok (.checkcast index, 3)) :
    ∃ T', Stand p l e R s m args below meth c T' locs cells slots ∧ T'.heap = T.heap ∧ ∀ target, Steps p.tables e below (T'.setTop { g with pc := g.pc + 3, stack := .ref a :: rest }) target → Steps p.tables e below (T.setTop g) target := by
  obtain ⟨cB, h1, D, h2, h3, h4⟩ := hE
  have h1' : s.vm.findClass C = some cB := by rw [← X.warmed.alike.findClass]; exact h1
  obtain ⟨vm', X', st⟩ := X.checkcastYes hexec hown hlink h2 h4 h1' (by rw [h3]; exact Jvm.Free.SB.assignable_self _ _) hg hstack hdg
  exact ⟨_, X', rfl, fun t h => st t (by rw [← hstack] at h; exact h)⟩
namespace SEq
def yN : MethodName := ⟨"java/lang/String", "equals", "(Ljava/lang/Object;)Z"⟩
abbrev yB : ByteArray := jdk_42_method_66_code
theorem d0 : decode yB 0 = .ok (.aload_n 0, 1) := by decide +kernel
theorem d1 : decode yB 1 = .ok (.aload_n 1, 1) := by decide +kernel
theorem d2 : decode yB 2 = .ok (.if_acmp (.ne) 5, 3) := by decide +kernel
theorem d5 : decode yB 5 = .ok (.iconst 1, 1) := by decide +kernel
theorem d6 : decode yB 6 = .ok (.ireturn, 1) := by decide +kernel
theorem d7 : decode yB 7 = .ok (.aload_n 1, 1) := by decide +kernel
theorem d8 : decode yB 8 = .ok (.instanceof 10, 3) := by decide +kernel
theorem d11 : decode yB 11 = .ok (.ifCond (.eq) 43, 3) := by decide +kernel
theorem d14 : decode yB 14 = .ok (.aload_n 1, 1) := by decide +kernel
theorem d15 : decode yB 15 = .ok (.checkcast 10, 3) := by decide +kernel
theorem d18 : decode yB 18 = .ok (.astore_n 2, 1) := by decide +kernel
theorem d19 : decode yB 19 = .ok (.getstatic 38, 3) := by decide +kernel
theorem d22 : decode yB 22 = .ok (.ifCond (.eq) 14, 3) := by decide +kernel
theorem d25 : decode yB 25 = .ok (.aload_n 0, 1) := by decide +kernel
theorem d26 : decode yB 26 = .ok (.getfield 15, 3) := by decide +kernel
theorem d29 : decode yB 29 = .ok (.aload_n 2, 1) := by decide +kernel
theorem d30 : decode yB 30 = .ok (.getfield 15, 3) := by decide +kernel
theorem d33 : decode yB 33 = .ok (.if_icmp (.ne) 21, 3) := by decide +kernel
theorem d36 : decode yB 36 = .ok (.aload_n 0, 1) := by decide +kernel
theorem d37 : decode yB 37 = .ok (.getfield 9, 3) := by decide +kernel
theorem d40 : decode yB 40 = .ok (.aload_n 2, 1) := by decide +kernel
theorem d41 : decode yB 41 = .ok (.getfield 9, 3) := by decide +kernel
theorem d44 : decode yB 44 = .ok (.invokestatic 541, 3) := by decide +kernel
theorem d47 : decode yB 47 = .ok (.ifCond (.eq) 7, 3) := by decide +kernel
theorem d50 : decode yB 50 = .ok (.iconst 1, 1) := by decide +kernel
theorem d51 : decode yB 51 = .ok (.goto 4, 3) := by decide +kernel
theorem d54 : decode yB 54 = .ok (.iconst 0, 1) := by decide +kernel
theorem d55 : decode yB 55 = .ok (.ireturn, 1) := by decide +kernel
def site : List Cond := [.classLink "java/lang/String" 10 "java/lang/String", .fieldLink "java/lang/String" 38 "java/lang/String" "COMPACT_STRINGS" "Z", .fieldLink "java/lang/String" 15 "java/lang/String" "coder" "B", .fieldLink "java/lang/String" 9 "java/lang/String" "value" "[B", LEq.tab] ++ staticW "java/lang/String" 541 LEq.yN
def tab : Cond := tabOf yN yB 3 (some .boolean) site
def P (x t : Addr) (V : Cell) (cd : Int32) (n : Nat) (f : Nat → Int32) (y t' : Addr) (V' : Cell) (cd' : Int32) (k : Nat) (g : Nat → Int32) (z : Int32) (args : Array Value) (s : State) : Prop := args = #[.ref x, .ref y] ∧ Txt x t V cd n f s ∧ Txt y t' V' cd' k g s ∧ StaticIs s "java/lang/String" "COMPACT_STRINGS" "Z" (.int z) ∧ ¬ z = 0
/-- equals(Object) of two Strings: whether the texts are the same -/
theorem law (l : Launch) (x t : Addr) (V : Cell) (cd : Int32) (n : Nat) (f : Nat → Int32) (y t' : Addr) (V' : Cell) (cd' : Int32) (k : Nat) (g : Nat → Int32) (z : Int32) : Law l yN 2 1 1 14 yB 3 (some .boolean) site (P x t V cd n f y t' V' cd' k g z) (Says01 (SameT n f k g)) [] 0 0 := by
  refine Law.of_walk (plainFor_of_name (by decide +kernel)) (by decide +kernel) (by decide +kernel) (by decide) (fun _ _ h => by rw [h.1]; rfl) (fun _ U U' hal hh h => ⟨h.1, h.2.1.mv hal hh, h.2.2.1.mv hal hh, h.2.2.2.1.there hal hh, h.2.2.2.2⟩) (fun r U U' V V' h1 hal h2 h => Says01.mv r U U' V V' h1 hal h2 h) ?_
  intro p e s m args below meth c s₁ X0 hexec hbytes hml hret hlk hnm hown hh0 W hP
  obtain ⟨rfl, hx, hy, s1, hz⟩ := hP
  have c1 : Steps p.tables e below (s₁.setTop (entryFrame m #[.ref x, .ref y] 3)) (s₁.setTop (mkF m 2 #[.val (.ref x), .val (.ref y), .unset] [.ref y, .ref x])) := Steps.trans (entry rfl) (by
    show Steps p.tables e below (s₁.setTop (mkF m 0 #[.val (.ref x), .val (.ref y), .unset] [])) _
    refine XS.aloadN X0.here hexec rfl (hb hbytes d0) rfl rfl ?_
    refine XS.aloadN X0.here hexec rfl (hb hbytes d1) rfl rfl ?_
    exact Steps.refl _)
  by_cases hxy : x = y
  · have c2 : Steps p.tables e below (s₁.setTop (entryFrame m #[.ref x, .ref y] 3)) (s₁.setTop (mkF m 6 #[.val (.ref x), .val (.ref y), .unset] [.int 1])) := c1.trans (by
      refine acmpNo X0.here hexec rfl (hb hbytes d2) rfl rfl rfl (by simp [acmp, hxy]) ?_
      refine iconstV X0.here hexec rfl 1 (hb hbytes d5) (by decide) ?_
      exact Steps.refl _)
    subst hxy
    have ec : cd = cd' := by
      obtain ⟨D, fd, a1, a2, a3⟩ := hx.2.2.1
      obtain ⟨D', fd', b1, b2, b3⟩ := hy.2.2.1
      cases a1.symm.trans b1
      obtain ⟨q1, q2, q3, q4⟩ := a2.1
      obtain ⟨r1, r2, r3, r4⟩ := b2.1
      cases q4.symm.trans r4
      cases a3.symm.trans b3; rfl
    have et : t = t' := by
      obtain ⟨D, fd, a1, a2, a3⟩ := hx.2.1
      obtain ⟨D', fd', b1, b2, b3⟩ := hy.2.1
      cases a1.symm.trans b1
      obtain ⟨q1, q2, q3, q4⟩ := a2.1
      obtain ⟨r1, r2, r3, r4⟩ := b2.1
      cases q4.symm.trans r4
      cases a3.symm.trans b3; rfl
    subst ec et
    have ev : V = V' := by cases hx.2.2.2.1.1.symm.trans hy.2.2.2.1.1; rfl
    subst ev
    have hs : SameT n f k g := (Cod.eqv hx.2.2.2.2.1 hy.2.2.2.2.1 hx.2.2.2.2.2 hy.2.2.2.2.2).mp ⟨rfl, fun _ _ => rfl⟩
    exact ⟨s₁, some (.int 1), _, _, _, X0, rfl, rfl, rfl, (fun h => by cases h), ⟨1, rfl, hh0, Or.inl ⟨rfl, hs⟩⟩, fun fs hl => c2.trans (X0.ireturnOut hexec hret rfl (Or.inr (Or.inl rfl)) (hb hbytes d6) hl)⟩
  · have c2 : Steps p.tables e below (s₁.setTop (entryFrame m #[.ref x, .ref y] 3)) (s₁.setTop (mkF m 8 #[.val (.ref x), .val (.ref y), .unset] [.ref y])) := c1.trans (by
      refine acmpYes X0.here hexec rfl (pc0 := 2) rfl (hb hbytes d2) rfl rfl rfl (by simp [acmp, hxy]) (by decide) rfl ?_
      refine XS.aloadN X0.here hexec rfl (hb hbytes d7) rfl rfl ?_
      exact Steps.refl _)
    obtain ⟨T3, X3, q3, st3⟩ := cinst X0 hexec hown (wk W (.classLink "java/lang/String" 10 "java/lang/String")) (hy.mv X0.warmed.alike hh0).1 (g := (mkF m 8 #[.val (.ref x), .val (.ref y), .unset] [.ref y])) rfl (rest := []) rfl (hb hbytes d8)
    have hh3 := q3.trans hh0
    have c4 : Steps p.tables e below (s₁.setTop (entryFrame m #[.ref x, .ref y] 3)) (T3.setTop (mkF m 15 #[.val (.ref x), .val (.ref y), .unset] [.ref y])) := (c2.trans (st3 _ (Steps.refl _))).trans (by
      refine XS.ifNo X3.here hexec rfl (hb hbytes d11) rfl (i0_eq_f (by decide)) ?_
      refine XS.aloadN X3.here hexec rfl (hb hbytes d14) rfl rfl ?_
      exact Steps.refl _)
    obtain ⟨T5, X5, q5, st5⟩ := cself X3 hexec hown (wk W (.classLink "java/lang/String" 10 "java/lang/String")) (hy.mv X3.warmed.alike hh3).1 (g := (mkF m 15 #[.val (.ref x), .val (.ref y), .unset] [.ref y])) rfl (rest := []) rfl (hb hbytes d15)
    have hh5 := q5.trans hh3
    have c6 : Steps p.tables e below (s₁.setTop (entryFrame m #[.ref x, .ref y] 3)) (T5.setTop (mkF m 19 #[.val (.ref x), .val (.ref y), .val (.ref y)] [])) := (c4.trans (st5 _ (Steps.refl _))).trans (by
      refine XS.astoreN X5.here hexec rfl (hb hbytes d18) rfl rfl rfl ?_
      exact Steps.refl _)
    obtain ⟨T7, X7, q7, st7⟩ := X5.sget hexec hown (wk W (.fieldLink "java/lang/String" 38 "java/lang/String" "COMPACT_STRINGS" "Z")) s1 (fun _ _ h => by rw [hh5]; exact h) (g := (mkF m 19 #[.val (.ref x), .val (.ref y), .val (.ref y)] [])) rfl (hb hbytes d19)
    have hh7 := q7.trans hh5
    have c8 : Steps p.tables e below (s₁.setTop (entryFrame m #[.ref x, .ref y] 3)) (T7.setTop (mkF m 26 #[.val (.ref x), .val (.ref y), .val (.ref y)] [.ref x])) := (c6.trans (st7 _ (Steps.refl _))).trans (by
      refine XS.ifNo X7.here hexec rfl (hb hbytes d22) rfl (i0_eq_f hz) ?_
      refine XS.aloadN X7.here hexec rfl (hb hbytes d25) rfl rfl ?_
      exact Steps.refl _)
    obtain ⟨T9, X9, q9, st9⟩ := X7.hget hexec hown (wk W (.fieldLink "java/lang/String" 15 "java/lang/String" "coder" "B")) (hx.mv X7.warmed.alike hh7).2.2.1 (g := (mkF m 26 #[.val (.ref x), .val (.ref y), .val (.ref y)] [.ref x])) rfl (rest := []) rfl (hb hbytes d26)
    have hh9 := q9.trans hh7
    have c10 : Steps p.tables e below (s₁.setTop (entryFrame m #[.ref x, .ref y] 3)) (T9.setTop (mkF m 30 #[.val (.ref x), .val (.ref y), .val (.ref y)] [.ref y, .int cd])) := (c8.trans (st9 _ (Steps.refl _))).trans (by
      refine XS.aloadN X9.here hexec rfl (hb hbytes d29) rfl rfl ?_
      exact Steps.refl _)
    obtain ⟨T11, X11, q11, st11⟩ := X9.hget hexec hown (wk W (.fieldLink "java/lang/String" 15 "java/lang/String" "coder" "B")) (hy.mv X9.warmed.alike hh9).2.2.1 (g := (mkF m 30 #[.val (.ref x), .val (.ref y), .val (.ref y)] [.ref y, .int cd])) rfl (rest := [.int cd]) rfl (hb hbytes d30)
    have hh11 := q11.trans hh9
    have c12 : Steps p.tables e below (s₁.setTop (entryFrame m #[.ref x, .ref y] 3)) (T11.setTop (mkF m 33 #[.val (.ref x), .val (.ref y), .val (.ref y)] [.int cd', .int cd])) := c10.trans (st11 _ (Steps.refl _))
    by_cases hcd : cd = cd'
    · subst hcd
      have c13 : Steps p.tables e below (s₁.setTop (entryFrame m #[.ref x, .ref y] 3)) (T11.setTop (mkF m 37 #[.val (.ref x), .val (.ref y), .val (.ref y)] [.ref x])) := c12.trans (by
        refine XS.icmpNo X11.here hexec rfl (hb hbytes d33) rfl (ii_ne_f rfl) ?_
        refine XS.aloadN X11.here hexec rfl (hb hbytes d36) rfl rfl ?_
        exact Steps.refl _)
      obtain ⟨T14, X14, q14, st14⟩ := X11.hget hexec hown (wk W (.fieldLink "java/lang/String" 9 "java/lang/String" "value" "[B")) (hx.mv X11.warmed.alike hh11).2.1 (g := (mkF m 37 #[.val (.ref x), .val (.ref y), .val (.ref y)] [.ref x])) rfl (rest := []) rfl (hb hbytes d37)
      have hh14 := q14.trans hh11
      have c15 : Steps p.tables e below (s₁.setTop (entryFrame m #[.ref x, .ref y] 3)) (T14.setTop (mkF m 41 #[.val (.ref x), .val (.ref y), .val (.ref y)] [.ref y, .ref t])) := (c13.trans (st14 _ (Steps.refl _))).trans (by
        refine XS.aloadN X14.here hexec rfl (hb hbytes d40) rfl rfl ?_
        exact Steps.refl _)
      obtain ⟨T16, X16, q16, st16⟩ := X14.hget hexec hown (wk W (.fieldLink "java/lang/String" 9 "java/lang/String" "value" "[B")) (hy.mv X14.warmed.alike hh14).2.1 (g := (mkF m 41 #[.val (.ref x), .val (.ref y), .val (.ref y)] [.ref y, .ref t])) rfl (rest := [.ref t]) rfl (hb hbytes d41)
      have hh16 := q16.trans hh14
      have c17 : Steps p.tables e below (s₁.setTop (entryFrame m #[.ref x, .ref y] 3)) (T16.setTop (mkF m 44 #[.val (.ref x), .val (.ref y), .val (.ref y)] [.ref t', .ref t])) := c15.trans (st16 _ (Steps.refl _))
      obtain ⟨v18, T18, X18, E18, g18⟩ := X16.callS hexec (LEq.law l t V t' V') hown (wks W (staticW "java/lang/String" 541 LEq.yN)) (wk W LEq.tab) (W := 0) (Nat.le_of_ble_eq_true rfl) (Nat.le_of_ble_eq_true rfl) (Nat.le_refl _) (Nat.le_refl _) (g := (mkF m 44 #[.val (.ref x), .val (.ref y), .val (.ref y)] [.ref t', .ref t])) rfl (by rw [hml]; rfl) c17 (argsL := [.ref t, .ref t']) (rest := []) rfl rfl (by show 2 * 0 + 0 ≤ _; decide) (hb hbytes d44) (⟨rfl, hx.2.2.2.1.mv X16.warmed.alike hh16, hx.2.2.2.2.1.ty, hy.2.2.2.1.mv X16.warmed.alike hh16, hy.2.2.2.2.1.ty⟩)
      obtain ⟨v, rfl, q18, hv⟩ := E18
      have iff := Cod.eqv hx.2.2.2.2.1 hy.2.2.2.2.1 hx.2.2.2.2.2 hy.2.2.2.2.2
      rcases hv with ⟨rfl, he⟩ | ⟨rfl, he⟩
      · have c19 : Steps p.tables e below (s₁.setTop (entryFrame m #[.ref x, .ref y] 3)) (T18.setTop (mkF m 55 #[.val (.ref x), .val (.ref y), .val (.ref y)] [.int 1])) := Steps.trans g18 (by
          refine XS.ifNo X18.here hexec rfl (hb hbytes d47) rfl (i0_eq_f (by decide)) ?_
          refine iconstV X18.here hexec rfl 1 (hb hbytes d50) (by decide) ?_
          refine XS.goto X18.here hexec rfl (pc0 := 51) rfl (hb hbytes d51) (by decide) rfl ?_
          exact Steps.refl _)
        exact ⟨T18, some (.int 1), _, _, _, X18, rfl, rfl, rfl, (fun h => by cases h), ⟨1, rfl, q18.trans hh16, Or.inl ⟨rfl, iff.mp he⟩⟩, fun fs hl => c19.trans (X18.ireturnOut hexec hret rfl (Or.inr (Or.inl rfl)) (hb hbytes d55) hl)⟩
      · have c19 : Steps p.tables e below (s₁.setTop (entryFrame m #[.ref x, .ref y] 3)) (T18.setTop (mkF m 55 #[.val (.ref x), .val (.ref y), .val (.ref y)] [.int 0])) := Steps.trans g18 (by
          refine XS.ifYes X18.here hexec rfl (pc0 := 47) rfl (hb hbytes d47) rfl (i0_eq_t rfl) (by decide) rfl ?_
          refine iconstV X18.here hexec rfl 0 (hb hbytes d54) (by decide) ?_
          exact Steps.refl _)
        exact ⟨T18, some (.int 0), _, _, _, X18, rfl, rfl, rfl, (fun h => by cases h), ⟨0, rfl, q18.trans hh16, Or.inr ⟨rfl, fun q => he (iff.mpr q)⟩⟩, fun fs hl => c19.trans (X18.ireturnOut hexec hret rfl (Or.inr (Or.inl rfl)) (hb hbytes d55) hl)⟩
    · have c13 : Steps p.tables e below (s₁.setTop (entryFrame m #[.ref x, .ref y] 3)) (T11.setTop (mkF m 55 #[.val (.ref x), .val (.ref y), .val (.ref y)] [.int 0])) := c12.trans (by
        refine XS.icmpYes X11.here hexec rfl (pc0 := 33) rfl (hb hbytes d33) rfl (ii_ne_t hcd) (by decide) rfl ?_
        refine iconstV X11.here hexec rfl 0 (hb hbytes d54) (by decide) ?_
        exact Steps.refl _)
      exact ⟨T11, some (.int 0), _, _, _, X11, rfl, rfl, rfl, (fun h => by cases h), ⟨0, rfl, hh11, Or.inr ⟨rfl, Cod.dif hx.2.2.2.2.1 hy.2.2.2.2.1 hcd⟩⟩, fun fs hl => c13.trans (X11.ireturnOut hexec hret rfl (Or.inr (Or.inl rfl)) (hb hbytes d55) hl)⟩
theorem pays {l : Launch} {R : Room} {p : Program} {e : Env} {below : List Frame} {s : State} {sargs : Array Value} {len W : Nat} (x t : Addr) (V : Cell) (cd : Int32) (n : Nat) (f : Nat → Int32) (y t' : Addr) (V' : Cell) (cd' : Int32) (k : Nat) (g : Nat → Int32) (z : Int32) (htab : tab.before sargs s = true) (hfr : 2 ≤ R.frames) (hlo : W + 28 ≤ R.locals) :
    Back l R p e below s sargs yN len W (fun A₁ a₁ => A₁.cells + 0 ≤ R.cells ∧ A₁.slots + 0 ≤ R.slots ∧ P x t V cd n f y t' V' cd' k g z a₁ A₁.U) (fun A₁ _ v₁ B₁ => Says01 (SameT n f k g) v₁ A₁.U B₁.U ∧ B₁.locs = A₁.locs ++ [] ∧ B₁.cells = A₁.cells + 0 ∧ B₁.slots = A₁.slots + 0) :=
  (law l x t V cd n f y t' V' cd' k g z).pays htab hfr (by omega)
end SEq
end StrChars
namespace StrChars.Road
open Jvm Sem ClassFile Op Lib Jvm.Stand Jvm.Free Jvm.Free.XT
open Jvm.Lib.Cold (StaticIs)
/-- the words of String.equals(Object) -/
abbrev wordsEq : List Jvm.Cond := [.code SEq.yN SEq.yB 3 (some .boolean), .initialized ST, .classLink ST 10 ST, .fieldLink ST 38 ST "COMPACT_STRINGS" "Z", .fieldLink ST 15 ST "coder" "B", .fieldLink ST 9 ST "value" "[B", .methodLink ST 541 LEq.yN, .static LEq.yN, .code LEq.yN LEq.yB 3 (some .boolean), .initialized "java/lang/StringLatin1"]
theorem tabEq_of {a : Array Value} {s : State} (h : ∀ w ∈ wordsEq, w.before a s = true) : SEq.tab.before a s = true := by
  have hl : LEq.tab.before a s = true := unparts (wk h (.code LEq.yN LEq.yB 3 (some .boolean))) (wks h (.initialized LEq.yN.cls :: LEq.site))
  have q := consq hl h
  exact unparts (wk q (.code SEq.yN SEq.yB 3 (some .boolean))) (wks q (.initialized SEq.yN.cls :: SEq.site))
theorem movedEq {Z s : State} {a0 args : Array Value} (hZ : Z.Warmed39 s.vm) (hw : ∀ d ∈ wordsEq, d.before a0 Z = true) : ∀ d ∈ wordsEq, d.before args s = true := fun d hd => by
  have t : ∀ d ∈ wordsEq, (d.onTables && d.keepsFace) = true := by decide +kernel
  exact RoadKit.mv hZ (hw d hd) (t d hd)
/-- the road's facts of a String, as the laws ask it -/
theorem txt_of {Z U : State} {a0 : Array Value} {kI : Nat} (wi : (Jvm.Cond.instantiable ST kI).before a0 Z = true) (al : Z.vm.Alike U.vm) {x t : Addr} {kb : ClassId} {cs : List Int32} {cd N2 : Int32} {vs : List Value} (E : RoadKit.Exa Z U.heap x ST) (V : RoadKit.Fld Z U.heap x ST "value" "[B" (.ref t)) (C : RoadKit.Fld Z U.heap x ST "coder" "B" (.int cd)) (K : RoadKit.Arv Z U.heap t kb .byte N2 vs (.int 0)) (hc : CodA cs cd N2 vs) (hb : ∀ c ∈ cs, ¬ c < 0 ∧ ¬ (65535 : Int32) < c) (l2 : cs.length ≤ 4000) :
    ∃ A, Txt x t A cd cs.length (fun j => cs.getD j 0) U := by
  obtain ⟨A, K1, K2, K3, K4, K5, K6⟩ := K
  have hcod := hc.cod (by omega) K3 K5
  obtain ⟨D, fV, fC, hB, F1, F2, g1, g2, -, -⟩ := strObj wi al E V C
  exact ⟨A, ⟨_, hB.2.2.1, D, hB.1, rfl, by cases q : D.vm <;> first | rfl | exact absurd q (hB.2.1.2 _)⟩, Has.of hB F1 g1, Has.of hB F2 g2, ⟨K1.1, State.isArrayOf_alike al K1.2.1, K1.2.2, by rcases hcod with ⟨-, q, -⟩ | ⟨-, q, -⟩ <;> omega⟩, hcod, fun j hj => by
    have e : cs.getD j 0 = cs[j] := by simp [List.getD_eq_getElem?_getD, hj]
    show ¬ cs.getD j 0 < 0 ∧ ¬ 65535 < cs.getD j 0
    rw [e]; exact hb _ (List.getElem_mem _)⟩
theorem same_list (cs ds : List Int32) : SameT cs.length (fun j => cs.getD j 0) ds.length (fun j => ds.getD j 0) ↔ cs = ds := by
  constructor
  · rintro ⟨e, q⟩
    refine List.ext_getElem e fun j h1 h2 => ?_
    have := q j h1
    simpa [List.getD_eq_getElem?_getD, h1, h2] using this
  · rintro rfl
    exact ⟨rfl, fun _ _ => rfl⟩
/-- **equals(Object) OF TWO SUCH STRINGS**: 1 just where the chars are the same -/
theorem eqW {p : Program} {l : Launch} {e : Env} {R : Room} {s : State} {args : Array Value} {below : List Frame} {len W : Nat} {Z : State} {a0 : Array Value} {h : Heap} (hZ : Z.Warmed39 s.vm) (hw : ∀ d ∈ wordsEq, d.before a0 Z = true) {kI : Nat} (wi : (Jvm.Cond.instantiable ST kI).before a0 Z = true)
    {x t : Addr} {kb : ClassId} {cs : List Int32} {cd N2 : Int32} {vs : List Value} (E : RoadKit.Exa Z h x ST) (V : RoadKit.Fld Z h x ST "value" "[B" (.ref t)) (C : RoadKit.Fld Z h x ST "coder" "B" (.int cd)) (K : RoadKit.Arv Z h t kb .byte N2 vs (.int 0)) (hc : CodA cs cd N2 vs) (hb : ∀ c ∈ cs, ¬ c < 0 ∧ ¬ (65535 : Int32) < c) (l2 : cs.length ≤ 4000)
    {y t' : Addr} {kb' : ClassId} {ds : List Int32} {cd' N2' : Int32} {vs' : List Value} (E' : RoadKit.Exa Z h y ST) (V' : RoadKit.Fld Z h y ST "value" "[B" (.ref t')) (C' : RoadKit.Fld Z h y ST "coder" "B" (.int cd')) (K' : RoadKit.Arv Z h t' kb' .byte N2' vs' (.int 0)) (hc' : CodA ds cd' N2' vs') (hb' : ∀ c ∈ ds, ¬ c < 0 ∧ ¬ (65535 : Int32) < c) (l2' : ds.length ≤ 4000)
    {z : Int32} (S : RoadKit.Sta Z h ST "COMPACT_STRINGS" "Z" (.int z)) (hz : ¬ z = 0) (hfr : 2 ≤ R.frames) (hlo : W + 28 ≤ R.locals) :
    Back l R p e below s args (⟨"java/lang/String", "equals", "(Ljava/lang/Object;)Z"⟩ : MethodName) len W (fun P a => a = #[.ref x, .ref y] ∧ P.U.heap = h ∧ P.cells + 0 ≤ R.cells ∧ P.slots + 0 ≤ R.slots)
      (fun P _ v B => ∃ L, (((v = some (.int 1) ∧ cs = ds) ∨ (v = some (.int 0) ∧ ¬ cs = ds)) ∧ L = [] ∧ B.U.heap = h) ∧ B.locs = P.locs ++ L ∧ B.cells = P.cells + 0 ∧ B.slots = P.slots + 0) := by
  intro m meth c P g ig mk a X hg hsize hdg hW hn hp'
  obtain ⟨rfl, rfl, r1, r2⟩ := hp'
  have al : Z.vm.Alike P.U.vm := hZ.alike.trans X.warmed.alike
  obtain ⟨A, hx⟩ := txt_of wi al E V C K hc hb l2
  obtain ⟨A', hy⟩ := txt_of wi al E' V' C' K' hc' hb' l2'
  obtain ⟨v, B, X', ⟨⟨w, hv, hh, hq⟩, hl, hk, hs⟩, st⟩ := SEq.pays x t A cd cs.length (fun j => cs.getD j 0) y t' A' cd' ds.length (fun j => ds.getD j 0) z (tabEq_of (movedEq hZ hw)) hfr hlo m meth c P g ig mk _ X hg hsize hdg hW hn ⟨r1, r2, rfl, hx, hy, sta_is al S, hz⟩
  refine ⟨v, B, X', ⟨[], ⟨?_, rfl, hh⟩, hl, hk, hs⟩, st⟩
  rcases hq with ⟨rfl, q⟩ | ⟨rfl, q⟩
  · exact Or.inl ⟨hv, (same_list cs ds).mp q⟩
  · exact Or.inr ⟨hv, fun e => q ((same_list cs ds).mpr e)⟩
end StrChars.Road
namespace StrChars.Road
open Jvm Sem ClassFile Op Lib Jvm.Stand Jvm.Free Jvm.Free.XT
open Jvm.Lib.Cold (StaticIs)
/-- what backV says of its String, as the contracts of this text ask it: cs's low bytes, coder 0 -/
theorem codOf {cs : List Int32} {n : Nat} (hn : cs.length = n) (hb : ∀ c ∈ cs, ¬ 255 < c) : CodA cs 0 (Int32.ofNat n) ((cs.map lo8).map Value.int) := Or.inl ⟨rfl, by rw [hn], by simp [List.map_map, Function.comp_def], hb⟩
end StrChars.Road
end Jvm.Pilot.@@N@@
namespace Jvm.Pilot.@@N@@
open Jvm Jvm.ClassFile Sem Op Lib Jvm.Free Jvm.Stand Jvm.LawKit Jvm.RoadKit Bundle Jvm.Own Jvm.Pilot.@@N@@.Jvm.D
abbrev vI (x : Int32) : Slot := .val (.int x)
abbrev vJ (x : Int64) : Slot := .val (.long x)
abbrev vR (x : Addr) : Slot := .val (.ref x)
abbrev vU : Slot := .unset
abbrev Y_0 : Jvm.MethodName := ({ cls := "com/example/patient_ledger/patientledger/EntryType", name := "values", desc := "()[Lcom/example/patient_ledger/patientledger/EntryType;" } : Jvm.MethodName)
abbrev Y_1 : Jvm.MethodName := ({ cls := "java/lang/String", name := "equals", desc := "(Ljava/lang/Object;)Z" } : Jvm.MethodName)
abbrev Y_2 : Jvm.MethodName := ({ cls := "java/lang/String", name := "<init>", desc := "([CIILjava/lang/Void;)V" } : Jvm.MethodName)
abbrev Y_3 : Jvm.MethodName := ({ cls := "com/example/patient_ledger/patientledger/EntryType", name := "fromWireName", desc := "(Ljava/lang/String;)Lcom/example/patient_ledger/patientledger/EntryType;" } : Jvm.MethodName)
abbrev Y_4 : Jvm.MethodName := ({ cls := "com/example/patient_ledger/patientledger/EntryTypeFromWireNamePinLaw", name := "copy", desc := "([CI)[C" } : Jvm.MethodName)
abbrev Y_5 : Jvm.MethodName := ({ cls := "java/lang/String", name := "<init>", desc := "([C)V" } : Jvm.MethodName)
abbrev Y_6 : Jvm.MethodName := ({ cls := "com/example/patient_ledger/patientledger/EntryTypeFromWireNamePinLaw", name := "ch", desc := "(JI)C" } : Jvm.MethodName)
theorem wd_0 {a0 : Array Value} {Z : State} (hw : ∀ d ∈ tables_1, d.before a0 Z = true) : (Jvm.Cond.arrayClass Jvm.ClassFile.FieldType.char).before a0 Z = true := hw _ (List.mem_of_getElem? (i := 0) rfl)
theorem wd_1 {a0 : Array Value} {Z : State} (hw : ∀ d ∈ tables_1, d.before a0 Z = true) : (Jvm.Cond.classLink "com/example/patient_ledger/patientledger/EntryTypeFromWireNamePinLaw" (16 : Nat) "java/lang/String").before a0 Z = true := hw _ (List.mem_of_getElem? (i := 1) rfl)
theorem wd_2 {a0 : Array Value} {Z : State} (hw : ∀ d ∈ tables_1, d.before a0 Z = true) : (Jvm.Cond.instantiable "java/lang/String" (4 : Nat)).before a0 Z = true := hw _ (List.mem_of_getElem? (i := 2) rfl)
theorem wd_3 {a0 : Array Value} {Z : State} (hw : ∀ d ∈ tables_1, d.before a0 Z = true) : (Jvm.Cond.initialized "java/lang/String").before a0 Z = true := hw _ (List.mem_of_getElem? (i := 3) rfl)
theorem wd_4 {a0 : Array Value} {Z : State} (hw : ∀ d ∈ tables_1, d.before a0 Z = true) : (Jvm.Cond.methodLink "com/example/patient_ledger/patientledger/EntryTypeFromWireNamePinLaw" (18 : Nat) ({ cls := "com/example/patient_ledger/patientledger/EntryTypeFromWireNamePinLaw", name := "copy", desc := "([CI)[C" } : Jvm.MethodName)).before a0 Z = true := hw _ (List.mem_of_getElem? (i := 4) rfl)
theorem wd_5 {a0 : Array Value} {Z : State} (hw : ∀ d ∈ tables_1, d.before a0 Z = true) : (Jvm.Cond.static ({ cls := "com/example/patient_ledger/patientledger/EntryTypeFromWireNamePinLaw", name := "copy", desc := "([CI)[C" } : Jvm.MethodName)).before a0 Z = true := hw _ (List.mem_of_getElem? (i := 5) rfl)
theorem wd_6 {a0 : Array Value} {Z : State} (hw : ∀ d ∈ tables_1, d.before a0 Z = true) : (Jvm.Cond.initialized "com/example/patient_ledger/patientledger/EntryTypeFromWireNamePinLaw").before a0 Z = true := hw _ (List.mem_of_getElem? (i := 6) rfl)
theorem wd_7 {a0 : Array Value} {Z : State} (hw : ∀ d ∈ tables_1, d.before a0 Z = true) : (Jvm.Cond.code ({ cls := "com/example/patient_ledger/patientledger/EntryTypeFromWireNamePinLaw", name := "copy", desc := "([CI)[C" } : Jvm.MethodName) method_3_code (3 : Nat) (Option.some (Jvm.ClassFile.FieldType.array Jvm.ClassFile.FieldType.char))).before a0 Z = true := hw _ (List.mem_of_getElem? (i := 7) rfl)
theorem wd_8 {a0 : Array Value} {Z : State} (hw : ∀ d ∈ tables_1, d.before a0 Z = true) : (Jvm.Cond.methodLink "com/example/patient_ledger/patientledger/EntryTypeFromWireNamePinLaw" (22 : Nat) ({ cls := "java/lang/String", name := "<init>", desc := "([C)V" } : Jvm.MethodName)).before a0 Z = true := hw _ (List.mem_of_getElem? (i := 8) rfl)
theorem wd_9 {a0 : Array Value} {Z : State} (hw : ∀ d ∈ tables_1, d.before a0 Z = true) : (Jvm.Cond.instanceMethod ({ cls := "java/lang/String", name := "<init>", desc := "([C)V" } : Jvm.MethodName)).before a0 Z = true := hw _ (List.mem_of_getElem? (i := 9) rfl)
theorem wd_10 {a0 : Array Value} {Z : State} (hw : ∀ d ∈ tables_1, d.before a0 Z = true) : (Jvm.Cond.code ({ cls := "java/lang/String", name := "<init>", desc := "([C)V" } : Jvm.MethodName) jdk_42_method_3_code (2 : Nat) (Option.none : Option Jvm.ClassFile.FieldType)).before a0 Z = true := hw _ (List.mem_of_getElem? (i := 10) rfl)
theorem wd_11 {a0 : Array Value} {Z : State} (hw : ∀ d ∈ tables_1, d.before a0 Z = true) : (Jvm.Cond.methodLink "java/lang/String" (27 : Nat) ({ cls := "java/lang/String", name := "<init>", desc := "([CIILjava/lang/Void;)V" } : Jvm.MethodName)).before a0 Z = true := hw _ (List.mem_of_getElem? (i := 11) rfl)
theorem wd_12 {a0 : Array Value} {Z : State} (hw : ∀ d ∈ tables_1, d.before a0 Z = true) : (Jvm.Cond.instanceMethod ({ cls := "java/lang/String", name := "<init>", desc := "([CIILjava/lang/Void;)V" } : Jvm.MethodName)).before a0 Z = true := hw _ (List.mem_of_getElem? (i := 12) rfl)
theorem wd_14 {a0 : Array Value} {Z : State} (hw : ∀ d ∈ tables_1, d.before a0 Z = true) : (Jvm.Cond.code ({ cls := "java/lang/String", name := "<init>", desc := "([CIILjava/lang/Void;)V" } : Jvm.MethodName) jdk_42_method_149_code (6 : Nat) (Option.none : Option Jvm.ClassFile.FieldType)).before a0 Z = true := hw _ (List.mem_of_getElem? (i := 14) rfl)
theorem wd_15 {a0 : Array Value} {Z : State} (hw : ∀ d ∈ tables_1, d.before a0 Z = true) : (Jvm.Cond.methodLink "java/lang/String" (1 : Nat) ({ cls := "java/lang/Object", name := "<init>", desc := "()V" } : Jvm.MethodName)).before a0 Z = true := hw _ (List.mem_of_getElem? (i := 15) rfl)
theorem wd_16 {a0 : Array Value} {Z : State} (hw : ∀ d ∈ tables_1, d.before a0 Z = true) : (Jvm.Cond.instanceMethod ({ cls := "java/lang/Object", name := "<init>", desc := "()V" } : Jvm.MethodName)).before a0 Z = true := hw _ (List.mem_of_getElem? (i := 16) rfl)
theorem wd_17 {a0 : Array Value} {Z : State} (hw : ∀ d ∈ tables_1, d.before a0 Z = true) : (Jvm.Cond.code ({ cls := "java/lang/Object", name := "<init>", desc := "()V" } : Jvm.MethodName) object_method_1_code (1 : Nat) (Option.none : Option Jvm.ClassFile.FieldType)).before a0 Z = true := hw _ (List.mem_of_getElem? (i := 17) rfl)
theorem wd_23 {a0 : Array Value} {Z : State} (hw : ∀ d ∈ tables_1, d.before a0 Z = true) : (Jvm.Cond.arrayClass Jvm.ClassFile.FieldType.byte).before a0 Z = true := hw _ (List.mem_of_getElem? (i := 23) rfl)
theorem wd_30 {a0 : Array Value} {Z : State} (hw : ∀ d ∈ tables_1, d.before a0 Z = true) : (Jvm.Cond.fieldLink "java/lang/String" (15 : Nat) "java/lang/String" "coder" "B").before a0 Z = true := hw _ (List.mem_of_getElem? (i := 30) rfl)
theorem wd_31 {a0 : Array Value} {Z : State} (hw : ∀ d ∈ tables_1, d.before a0 Z = true) : (Jvm.Cond.laysFinal "java/lang/String" "java/lang/String" "coder" "B").before a0 Z = true := hw _ (List.mem_of_getElem? (i := 31) rfl)
theorem wd_32 {a0 : Array Value} {Z : State} (hw : ∀ d ∈ tables_1, d.before a0 Z = true) : (Jvm.Cond.fieldLink "java/lang/String" (9 : Nat) "java/lang/String" "value" "[B").before a0 Z = true := hw _ (List.mem_of_getElem? (i := 32) rfl)
theorem wd_33 {a0 : Array Value} {Z : State} (hw : ∀ d ∈ tables_1, d.before a0 Z = true) : (Jvm.Cond.laysFinal "java/lang/String" "java/lang/String" "value" "[B").before a0 Z = true := hw _ (List.mem_of_getElem? (i := 33) rfl)
theorem wd_34 {a0 : Array Value} {Z : State} (hw : ∀ d ∈ tables_1, d.before a0 Z = true) : (Jvm.Cond.stringLink "com/example/patient_ledger/patientledger/EntryTypeFromWireNamePinLaw" (25 : Nat) "debit").before a0 Z = true := hw _ (List.mem_of_getElem? (i := 34) rfl)
theorem wd_37 {a0 : Array Value} {Z : State} (hw : ∀ d ∈ tables_1, d.before a0 Z = true) : (Jvm.Cond.methodLink "com/example/patient_ledger/patientledger/EntryTypeFromWireNamePinLaw" (27 : Nat) ({ cls := "java/lang/String", name := "equals", desc := "(Ljava/lang/Object;)Z" } : Jvm.MethodName)).before a0 Z = true := hw _ (List.mem_of_getElem? (i := 37) rfl)
theorem wd_38 {a0 : Array Value} {Z : State} (hw : ∀ d ∈ tables_1, d.before a0 Z = true) : (Jvm.Cond.declares ({ cls := "java/lang/String", name := "equals", desc := "(Ljava/lang/Object;)Z" } : Jvm.MethodName)).before a0 Z = true := hw _ (List.mem_of_getElem? (i := 38) rfl)
theorem wd_39 {a0 : Array Value} {Z : State} (hw : ∀ d ∈ tables_1, d.before a0 Z = true) : (Jvm.Cond.instanceMethod ({ cls := "java/lang/String", name := "equals", desc := "(Ljava/lang/Object;)Z" } : Jvm.MethodName)).before a0 Z = true := hw _ (List.mem_of_getElem? (i := 39) rfl)
theorem wd_40 {a0 : Array Value} {Z : State} (hw : ∀ d ∈ tables_1, d.before a0 Z = true) : (Jvm.Cond.selects "java/lang/String" ({ cls := "java/lang/String", name := "equals", desc := "(Ljava/lang/Object;)Z" } : Jvm.MethodName) ({ cls := "java/lang/String", name := "equals", desc := "(Ljava/lang/Object;)Z" } : Jvm.MethodName)).before a0 Z = true := hw _ (List.mem_of_getElem? (i := 40) rfl)
theorem wd_41 {a0 : Array Value} {Z : State} (hw : ∀ d ∈ tables_1, d.before a0 Z = true) : (Jvm.Cond.code ({ cls := "java/lang/String", name := "equals", desc := "(Ljava/lang/Object;)Z" } : Jvm.MethodName) jdk_42_method_66_code (3 : Nat) (Option.some Jvm.ClassFile.FieldType.boolean)).before a0 Z = true := hw _ (List.mem_of_getElem? (i := 41) rfl)
theorem wd_47 {a0 : Array Value} {Z : State} (hw : ∀ d ∈ tables_1, d.before a0 Z = true) : (Jvm.Cond.fieldLink "com/example/patient_ledger/patientledger/EntryTypeFromWireNamePinLaw" (31 : Nat) "com/example/patient_ledger/patientledger/EntryType" "DEBIT" "Lcom/example/patient_ledger/patientledger/EntryType;").before a0 Z = true := hw _ (List.mem_of_getElem? (i := 47) rfl)
theorem wd_48 {a0 : Array Value} {Z : State} (hw : ∀ d ∈ tables_1, d.before a0 Z = true) : (Jvm.Cond.initialized "com/example/patient_ledger/patientledger/EntryType").before a0 Z = true := hw _ (List.mem_of_getElem? (i := 48) rfl)
theorem wd_49 {a0 : Array Value} {Z : State} (hw : ∀ d ∈ tables_1, d.before a0 Z = true) : (Jvm.Cond.laysStatic "com/example/patient_ledger/patientledger/EntryType" "DEBIT" "Lcom/example/patient_ledger/patientledger/EntryType;").before a0 Z = true := hw _ (List.mem_of_getElem? (i := 49) rfl)
theorem wd_50 {a0 : Array Value} {Z : State} (hw : ∀ d ∈ tables_1, d.before a0 Z = true) : (Jvm.Cond.methodLink "com/example/patient_ledger/patientledger/EntryTypeFromWireNamePinLaw" (42 : Nat) ({ cls := "com/example/patient_ledger/patientledger/EntryType", name := "fromWireName", desc := "(Ljava/lang/String;)Lcom/example/patient_ledger/patientledger/EntryType;" } : Jvm.MethodName)).before a0 Z = true := hw _ (List.mem_of_getElem? (i := 50) rfl)
theorem wd_51 {a0 : Array Value} {Z : State} (hw : ∀ d ∈ tables_1, d.before a0 Z = true) : (Jvm.Cond.static ({ cls := "com/example/patient_ledger/patientledger/EntryType", name := "fromWireName", desc := "(Ljava/lang/String;)Lcom/example/patient_ledger/patientledger/EntryType;" } : Jvm.MethodName)).before a0 Z = true := hw _ (List.mem_of_getElem? (i := 51) rfl)
theorem wd_52 {a0 : Array Value} {Z : State} (hw : ∀ d ∈ tables_1, d.before a0 Z = true) : (Jvm.Cond.code ({ cls := "com/example/patient_ledger/patientledger/EntryType", name := "fromWireName", desc := "(Ljava/lang/String;)Lcom/example/patient_ledger/patientledger/EntryType;" } : Jvm.MethodName) prog_6_method_6_code (6 : Nat) (Option.some (Jvm.ClassFile.FieldType.object "com/example/patient_ledger/patientledger/EntryType"))).before a0 Z = true := hw _ (List.mem_of_getElem? (i := 52) rfl)
theorem wd_53 {a0 : Array Value} {Z : State} (hw : ∀ d ∈ tables_1, d.before a0 Z = true) : (Jvm.Cond.methodLink "com/example/patient_ledger/patientledger/EntryType" (37 : Nat) ({ cls := "com/example/patient_ledger/patientledger/EntryType", name := "values", desc := "()[Lcom/example/patient_ledger/patientledger/EntryType;" } : Jvm.MethodName)).before a0 Z = true := hw _ (List.mem_of_getElem? (i := 53) rfl)
theorem wd_54 {a0 : Array Value} {Z : State} (hw : ∀ d ∈ tables_1, d.before a0 Z = true) : (Jvm.Cond.static ({ cls := "com/example/patient_ledger/patientledger/EntryType", name := "values", desc := "()[Lcom/example/patient_ledger/patientledger/EntryType;" } : Jvm.MethodName)).before a0 Z = true := hw _ (List.mem_of_getElem? (i := 54) rfl)
theorem wd_55 {a0 : Array Value} {Z : State} (hw : ∀ d ∈ tables_1, d.before a0 Z = true) : (Jvm.Cond.code ({ cls := "com/example/patient_ledger/patientledger/EntryType", name := "values", desc := "()[Lcom/example/patient_ledger/patientledger/EntryType;" } : Jvm.MethodName) prog_6_method_1_code (0 : Nat) (Option.some (Jvm.ClassFile.FieldType.array (Jvm.ClassFile.FieldType.object "com/example/patient_ledger/patientledger/EntryType")))).before a0 Z = true := hw _ (List.mem_of_getElem? (i := 55) rfl)
theorem wd_56 {a0 : Array Value} {Z : State} (hw : ∀ d ∈ tables_1, d.before a0 Z = true) : (Jvm.Cond.fieldLink "com/example/patient_ledger/patientledger/EntryType" (10 : Nat) "com/example/patient_ledger/patientledger/EntryType" "$VALUES" "[Lcom/example/patient_ledger/patientledger/EntryType;").before a0 Z = true := hw _ (List.mem_of_getElem? (i := 56) rfl)
theorem wd_57 {a0 : Array Value} {Z : State} (hw : ∀ d ∈ tables_1, d.before a0 Z = true) : (Jvm.Cond.laysStatic "com/example/patient_ledger/patientledger/EntryType" "$VALUES" "[Lcom/example/patient_ledger/patientledger/EntryType;").before a0 Z = true := hw _ (List.mem_of_getElem? (i := 57) rfl)
theorem wd_58 {a0 : Array Value} {Z : State} (hw : ∀ d ∈ tables_1, d.before a0 Z = true) : (Jvm.Cond.methodLink "com/example/patient_ledger/patientledger/EntryType" (14 : Nat) ({ cls := "[Lcom/example/patient_ledger/patientledger/EntryType;", name := "clone", desc := "()Ljava/lang/Object;" } : Jvm.MethodName)).before a0 Z = true := hw _ (List.mem_of_getElem? (i := 58) rfl)
theorem wd_59 {a0 : Array Value} {Z : State} (hw : ∀ d ∈ tables_1, d.before a0 Z = true) : (Jvm.Cond.sameMethod "[Lcom/example/patient_ledger/patientledger/EntryType;" "java/lang/Object" "clone" "()Ljava/lang/Object;").before a0 Z = true := hw _ (List.mem_of_getElem? (i := 59) rfl)
theorem wd_61 {a0 : Array Value} {Z : State} (hw : ∀ d ∈ tables_1, d.before a0 Z = true) : (Jvm.Cond.instanceMethod ({ cls := "java/lang/Object", name := "clone", desc := "()Ljava/lang/Object;" } : Jvm.MethodName)).before a0 Z = true := hw _ (List.mem_of_getElem? (i := 61) rfl)
theorem wd_62 {a0 : Array Value} {Z : State} (hw : ∀ d ∈ tables_1, d.before a0 Z = true) : (Jvm.Cond.selects "[Lcom/example/patient_ledger/patientledger/EntryType;" ({ cls := "[Lcom/example/patient_ledger/patientledger/EntryType;", name := "clone", desc := "()Ljava/lang/Object;" } : Jvm.MethodName) ({ cls := "java/lang/Object", name := "clone", desc := "()Ljava/lang/Object;" } : Jvm.MethodName)).before a0 Z = true := hw _ (List.mem_of_getElem? (i := 62) rfl)
theorem wd_63 {a0 : Array Value} {Z : State} (hw : ∀ d ∈ tables_1, d.before a0 Z = true) : (Jvm.Cond.native ({ cls := "java/lang/Object", name := "clone", desc := "()Ljava/lang/Object;" } : Jvm.MethodName)).before a0 Z = true := hw _ (List.mem_of_getElem? (i := 63) rfl)
theorem wd_64 {a0 : Array Value} {Z : State} (hw : ∀ d ∈ tables_1, d.before a0 Z = true) : (Jvm.Cond.castable "[Lcom/example/patient_ledger/patientledger/EntryType;" "java/lang/Cloneable").before a0 Z = true := hw _ (List.mem_of_getElem? (i := 64) rfl)
theorem wd_65 {a0 : Array Value} {Z : State} (hw : ∀ d ∈ tables_1, d.before a0 Z = true) : (Jvm.Cond.laysStatic "com/example/patient_ledger/patientledger/EntryType" "CREDIT" "Lcom/example/patient_ledger/patientledger/EntryType;").before a0 Z = true := hw _ (List.mem_of_getElem? (i := 65) rfl)
theorem wd_67 {a0 : Array Value} {Z : State} (hw : ∀ d ∈ tables_1, d.before a0 Z = true) : (Jvm.Cond.classLink "com/example/patient_ledger/patientledger/EntryType" (15 : Nat) "[Lcom/example/patient_ledger/patientledger/EntryType;").before a0 Z = true := hw _ (List.mem_of_getElem? (i := 67) rfl)
theorem wd_69 {a0 : Array Value} {Z : State} (hw : ∀ d ∈ tables_1, d.before a0 Z = true) : (Jvm.Cond.fieldLink "com/example/patient_ledger/patientledger/EntryType" (29 : Nat) "com/example/patient_ledger/patientledger/EntryType" "wireName" "Ljava/lang/String;").before a0 Z = true := hw _ (List.mem_of_getElem? (i := 69) rfl)
theorem wd_71 {a0 : Array Value} {Z : State} (hw : ∀ d ∈ tables_1, d.before a0 Z = true) : (Jvm.Cond.methodLink "com/example/patient_ledger/patientledger/EntryType" (41 : Nat) ({ cls := "java/lang/String", name := "equals", desc := "(Ljava/lang/Object;)Z" } : Jvm.MethodName)).before a0 Z = true := hw _ (List.mem_of_getElem? (i := 71) rfl)
theorem wd_72 {a0 : Array Value} {Z : State} (hw : ∀ d ∈ tables_1, d.before a0 Z = true) : (Jvm.Cond.methodLink "com/example/patient_ledger/patientledger/EntryTypeFromWireNamePinLaw" (9 : Nat) ({ cls := "com/example/patient_ledger/patientledger/EntryTypeFromWireNamePinLaw", name := "ch", desc := "(JI)C" } : Jvm.MethodName)).before a0 Z = true := hw _ (List.mem_of_getElem? (i := 72) rfl)
theorem wd_73 {a0 : Array Value} {Z : State} (hw : ∀ d ∈ tables_1, d.before a0 Z = true) : (Jvm.Cond.static ({ cls := "com/example/patient_ledger/patientledger/EntryTypeFromWireNamePinLaw", name := "ch", desc := "(JI)C" } : Jvm.MethodName)).before a0 Z = true := hw _ (List.mem_of_getElem? (i := 73) rfl)
theorem wd_74 {a0 : Array Value} {Z : State} (hw : ∀ d ∈ tables_1, d.before a0 Z = true) : (Jvm.Cond.code ({ cls := "com/example/patient_ledger/patientledger/EntryTypeFromWireNamePinLaw", name := "ch", desc := "(JI)C" } : Jvm.MethodName) method_2_code (3 : Nat) (Option.some Jvm.ClassFile.FieldType.char)).before a0 Z = true := hw _ (List.mem_of_getElem? (i := 74) rfl)
theorem wd_75 {a0 : Array Value} {Z : State} (hw : ∀ d ∈ tables_1, d.before a0 Z = true) : (Jvm.Cond.constantLong "com/example/patient_ledger/patientledger/EntryTypeFromWireNamePinLaw" (7 : Nat) (255 : Int64)).before a0 Z = true := hw _ (List.mem_of_getElem? (i := 75) rfl)
theorem wd_76 {a0 : Array Value} {Z : State} (hw : ∀ d ∈ tables_1, d.before a0 Z = true) : (Jvm.Cond.constant "com/example/patient_ledger/patientledger/EntryTypeFromWireNamePinLaw" (15 : Nat) (2147483647 : Int32)).before a0 Z = true := hw _ (List.mem_of_getElem? (i := 76) rfl)
theorem wd_77 {a0 : Array Value} {Z : State} (hw : ∀ d ∈ tables_1, d.before a0 Z = true) : (Jvm.Cond.stringLink "com/example/patient_ledger/patientledger/EntryTypeFromWireNamePinLaw" (37 : Nat) "credit").before a0 Z = true := hw _ (List.mem_of_getElem? (i := 77) rfl)
theorem wd_78 {a0 : Array Value} {Z : State} (hw : ∀ d ∈ tables_1, d.before a0 Z = true) : (Jvm.Cond.fieldLink "com/example/patient_ledger/patientledger/EntryTypeFromWireNamePinLaw" (39 : Nat) "com/example/patient_ledger/patientledger/EntryType" "CREDIT" "Lcom/example/patient_ledger/patientledger/EntryType;").before a0 Z = true := hw _ (List.mem_of_getElem? (i := 78) rfl)
theorem wd_79 {a0 : Array Value} {Z : State} (hw : ∀ d ∈ tables_1, d.before a0 Z = true) : (Jvm.Cond.stringLink "java/lang/String" (7 : Nat) "").before a0 Z = true := hw _ (List.mem_of_getElem? (i := 79) rfl)
theorem pn_0 : plainName "com/example/patient_ledger/patientledger/EntryType" = true := by first | (simp [plainName, overriddenIn]; done) | decide +kernel
theorem pn_1 : plainName "java/lang/String" = true := by first | (simp [plainName, overriddenIn]; done) | decide +kernel
theorem pn_2 : plainName "com/example/patient_ledger/patientledger/EntryTypeFromWireNamePinLaw" = true := by first | (simp [plainName, overriddenIn]; done) | decide +kernel
theorem pd_0 : parseMethodDescriptor "()[Lcom/example/patient_ledger/patientledger/EntryType;" = some ⟨[], some (.array (.object "com/example/patient_ledger/patientledger/EntryType"))⟩ := by decide +kernel
theorem pd_1 : parseMethodDescriptor "(Ljava/lang/Object;)Z" = some ⟨[(.object "java/lang/Object")], some .boolean⟩ := by decide +kernel
theorem pd_2 : parseMethodDescriptor "([CIILjava/lang/Void;)V" = some ⟨[(.array .char), .int, .int, (.object "java/lang/Void")], none⟩ := by decide +kernel
theorem pd_3 : parseMethodDescriptor "(Ljava/lang/String;)Lcom/example/patient_ledger/patientledger/EntryType;" = some ⟨[(.object "java/lang/String")], some (.object "com/example/patient_ledger/patientledger/EntryType")⟩ := by decide +kernel
theorem pd_4 : parseMethodDescriptor "([CI)[C" = some ⟨[(.array .char), .int], some (.array .char)⟩ := by decide +kernel
theorem pd_5 : parseMethodDescriptor "([C)V" = some ⟨[(.array .char)], none⟩ := by decide +kernel
theorem pd_6 : parseMethodDescriptor "(JI)C" = some ⟨[.long, .int], some .char⟩ := by decide +kernel
theorem pf_0 : parseFieldDescriptor "[B" = some (.array .byte) := by decide +kernel
theorem pf_1 : parseFieldDescriptor "B" = some .byte := by decide +kernel
theorem sn_0 {a0 : Array Value} {Z : State} (hw : ∀ d ∈ tables_1, d.before a0 Z = true) : Jvm.RoadKit.slotOf Z "java/lang/String" "coder" "B" ≠ Jvm.RoadKit.slotOf Z "java/lang/String" "value" "[B" := slot_ne (a0 := a0) (C := "java/lang/String") (Or.inr (wd_31 hw)) (Or.inr (wd_33 hw)) (by decide) pf_1 pf_0
theorem sn_1 {a0 : Array Value} {Z : State} (hw : ∀ d ∈ tables_1, d.before a0 Z = true) : Jvm.RoadKit.slotOf Z "java/lang/String" "value" "[B" ≠ Jvm.RoadKit.slotOf Z "java/lang/String" "coder" "B" := slot_ne (a0 := a0) (C := "java/lang/String") (Or.inr (wd_33 hw)) (Or.inr (wd_31 hw)) (by decide) pf_0 pf_1
theorem d_jdk_42_method_149_code_0 : decode jdk_42_method_149_code 0 = .ok (.aload_n 0, 1) := by decide +kernel
theorem d_jdk_42_method_149_code_1 : decode jdk_42_method_149_code 1 = .ok (.invokespecial 1, 3) := by decide +kernel
theorem d_jdk_42_method_149_code_11 : decode jdk_42_method_149_code 11 = .ok (.getfield 9, 3) := by decide +kernel
theorem d_jdk_42_method_149_code_14 : decode jdk_42_method_149_code 14 = .ok (.putfield 9, 3) := by decide +kernel
theorem d_jdk_42_method_149_code_17 : decode jdk_42_method_149_code 17 = .ok (.aload_n 0, 1) := by decide +kernel
theorem d_jdk_42_method_149_code_18 : decode jdk_42_method_149_code 18 = .ok (.ldc 7, 2) := by decide +kernel
theorem d_jdk_42_method_149_code_20 : decode jdk_42_method_149_code 20 = .ok (.getfield 15, 3) := by decide +kernel
theorem d_jdk_42_method_149_code_23 : decode jdk_42_method_149_code 23 = .ok (.putfield 15, 3) := by decide +kernel
theorem d_jdk_42_method_149_code_26 : decode jdk_42_method_149_code 26 = .ok (.return_, 1) := by decide +kernel
theorem d_jdk_42_method_149_code_4 : decode jdk_42_method_149_code 4 = .ok (.iload_n 3, 1) := by decide +kernel
theorem d_jdk_42_method_149_code_5 : decode jdk_42_method_149_code 5 = .ok (.ifCond .ne 22, 3) := by decide +kernel
theorem d_jdk_42_method_149_code_8 : decode jdk_42_method_149_code 8 = .ok (.aload_n 0, 1) := by decide +kernel
theorem d_jdk_42_method_149_code_9 : decode jdk_42_method_149_code 9 = .ok (.ldc 7, 2) := by decide +kernel
theorem d_jdk_42_method_3_code_0 : decode jdk_42_method_3_code 0 = .ok (.aload_n 0, 1) := by decide +kernel
theorem d_jdk_42_method_3_code_1 : decode jdk_42_method_3_code 1 = .ok (.aload_n 1, 1) := by decide +kernel
theorem d_jdk_42_method_3_code_2 : decode jdk_42_method_3_code 2 = .ok (.iconst 0, 1) := by decide +kernel
theorem d_jdk_42_method_3_code_3 : decode jdk_42_method_3_code 3 = .ok (.aload_n 1, 1) := by decide +kernel
theorem d_jdk_42_method_3_code_4 : decode jdk_42_method_3_code 4 = .ok (.arraylength, 1) := by decide +kernel
theorem d_jdk_42_method_3_code_5 : decode jdk_42_method_3_code 5 = .ok (.aconst_null, 1) := by decide +kernel
theorem d_jdk_42_method_3_code_6 : decode jdk_42_method_3_code 6 = .ok (.invokespecial 27, 3) := by decide +kernel
theorem d_jdk_42_method_3_code_9 : decode jdk_42_method_3_code 9 = .ok (.return_, 1) := by decide +kernel
theorem d_jdk_42_method_66_code_0 : decode jdk_42_method_66_code 0 = .ok (.aload_n 0, 1) := by decide +kernel
theorem d_jdk_42_method_66_code_1 : decode jdk_42_method_66_code 1 = .ok (.aload_n 1, 1) := by decide +kernel
theorem d_jdk_42_method_66_code_11 : decode jdk_42_method_66_code 11 = .ok (.ifCond .eq 43, 3) := by decide +kernel
theorem d_jdk_42_method_66_code_2 : decode jdk_42_method_66_code 2 = .ok (.if_acmp .ne 5, 3) := by decide +kernel
theorem d_jdk_42_method_66_code_54 : decode jdk_42_method_66_code 54 = .ok (.iconst 0, 1) := by decide +kernel
theorem d_jdk_42_method_66_code_55 : decode jdk_42_method_66_code 55 = .ok (.ireturn, 1) := by decide +kernel
theorem d_jdk_42_method_66_code_7 : decode jdk_42_method_66_code 7 = .ok (.aload_n 1, 1) := by decide +kernel
theorem d_jdk_42_method_66_code_8 : decode jdk_42_method_66_code 8 = .ok (.instanceof 10, 3) := by decide +kernel
theorem d_method_2_code_0 : decode method_2_code 0 = .ok (.lload_n 0, 1) := by decide +kernel
theorem d_method_2_code_1 : decode method_2_code 1 = .ok (.bipush 8, 2) := by decide +kernel
theorem d_method_2_code_10 : decode method_2_code 10 = .ok (.l2i, 1) := by decide +kernel
theorem d_method_2_code_11 : decode method_2_code 11 = .ok (.i2c, 1) := by decide +kernel
theorem d_method_2_code_12 : decode method_2_code 12 = .ok (.ireturn, 1) := by decide +kernel
theorem d_method_2_code_3 : decode method_2_code 3 = .ok (.iload_n 2, 1) := by decide +kernel
theorem d_method_2_code_4 : decode method_2_code 4 = .ok (.imul, 1) := by decide +kernel
theorem d_method_2_code_5 : decode method_2_code 5 = .ok (.lushr, 1) := by decide +kernel
theorem d_method_2_code_6 : decode method_2_code 6 = .ok (.ldc2_w 7, 3) := by decide +kernel
theorem d_method_2_code_9 : decode method_2_code 9 = .ok (.land, 1) := by decide +kernel
theorem d_method_3_code_0 : decode method_3_code 0 = .ok (.iload_n 1, 1) := by decide +kernel
theorem d_method_3_code_1 : decode method_3_code 1 = .ok (.newarray .char, 2) := by decide +kernel
theorem d_method_3_code_10 : decode method_3_code 10 = .ok (.aload_n 0, 1) := by decide +kernel
theorem d_method_3_code_11 : decode method_3_code 11 = .ok (.iconst 0, 1) := by decide +kernel
theorem d_method_3_code_12 : decode method_3_code 12 = .ok (.caload, 1) := by decide +kernel
theorem d_method_3_code_13 : decode method_3_code 13 = .ok (.castore, 1) := by decide +kernel
theorem d_method_3_code_14 : decode method_3_code 14 = .ok (.iload_n 1, 1) := by decide +kernel
theorem d_method_3_code_15 : decode method_3_code 15 = .ok (.iconst 1, 1) := by decide +kernel
theorem d_method_3_code_16 : decode method_3_code 16 = .ok (.if_icmp .le 9, 3) := by decide +kernel
theorem d_method_3_code_19 : decode method_3_code 19 = .ok (.aload_n 2, 1) := by decide +kernel
theorem d_method_3_code_20 : decode method_3_code 20 = .ok (.iconst 1, 1) := by decide +kernel
theorem d_method_3_code_21 : decode method_3_code 21 = .ok (.aload_n 0, 1) := by decide +kernel
theorem d_method_3_code_22 : decode method_3_code 22 = .ok (.iconst 1, 1) := by decide +kernel
theorem d_method_3_code_23 : decode method_3_code 23 = .ok (.caload, 1) := by decide +kernel
theorem d_method_3_code_24 : decode method_3_code 24 = .ok (.castore, 1) := by decide +kernel
theorem d_method_3_code_25 : decode method_3_code 25 = .ok (.iload_n 1, 1) := by decide +kernel
theorem d_method_3_code_26 : decode method_3_code 26 = .ok (.iconst 2, 1) := by decide +kernel
theorem d_method_3_code_27 : decode method_3_code 27 = .ok (.if_icmp .le 9, 3) := by decide +kernel
theorem d_method_3_code_3 : decode method_3_code 3 = .ok (.astore_n 2, 1) := by decide +kernel
theorem d_method_3_code_30 : decode method_3_code 30 = .ok (.aload_n 2, 1) := by decide +kernel
theorem d_method_3_code_31 : decode method_3_code 31 = .ok (.iconst 2, 1) := by decide +kernel
theorem d_method_3_code_32 : decode method_3_code 32 = .ok (.aload_n 0, 1) := by decide +kernel
theorem d_method_3_code_33 : decode method_3_code 33 = .ok (.iconst 2, 1) := by decide +kernel
theorem d_method_3_code_34 : decode method_3_code 34 = .ok (.caload, 1) := by decide +kernel
theorem d_method_3_code_35 : decode method_3_code 35 = .ok (.castore, 1) := by decide +kernel
theorem d_method_3_code_36 : decode method_3_code 36 = .ok (.iload_n 1, 1) := by decide +kernel
theorem d_method_3_code_37 : decode method_3_code 37 = .ok (.iconst 3, 1) := by decide +kernel
theorem d_method_3_code_38 : decode method_3_code 38 = .ok (.if_icmp .le 9, 3) := by decide +kernel
theorem d_method_3_code_4 : decode method_3_code 4 = .ok (.iload_n 1, 1) := by decide +kernel
theorem d_method_3_code_41 : decode method_3_code 41 = .ok (.aload_n 2, 1) := by decide +kernel
theorem d_method_3_code_42 : decode method_3_code 42 = .ok (.iconst 3, 1) := by decide +kernel
theorem d_method_3_code_43 : decode method_3_code 43 = .ok (.aload_n 0, 1) := by decide +kernel
theorem d_method_3_code_44 : decode method_3_code 44 = .ok (.iconst 3, 1) := by decide +kernel
theorem d_method_3_code_45 : decode method_3_code 45 = .ok (.caload, 1) := by decide +kernel
theorem d_method_3_code_46 : decode method_3_code 46 = .ok (.castore, 1) := by decide +kernel
theorem d_method_3_code_47 : decode method_3_code 47 = .ok (.iload_n 1, 1) := by decide +kernel
theorem d_method_3_code_48 : decode method_3_code 48 = .ok (.iconst 4, 1) := by decide +kernel
theorem d_method_3_code_49 : decode method_3_code 49 = .ok (.if_icmp .le 9, 3) := by decide +kernel
theorem d_method_3_code_5 : decode method_3_code 5 = .ok (.ifCond .le 9, 3) := by decide +kernel
theorem d_method_3_code_52 : decode method_3_code 52 = .ok (.aload_n 2, 1) := by decide +kernel
theorem d_method_3_code_53 : decode method_3_code 53 = .ok (.iconst 4, 1) := by decide +kernel
theorem d_method_3_code_54 : decode method_3_code 54 = .ok (.aload_n 0, 1) := by decide +kernel
theorem d_method_3_code_55 : decode method_3_code 55 = .ok (.iconst 4, 1) := by decide +kernel
theorem d_method_3_code_56 : decode method_3_code 56 = .ok (.caload, 1) := by decide +kernel
theorem d_method_3_code_57 : decode method_3_code 57 = .ok (.castore, 1) := by decide +kernel
theorem d_method_3_code_58 : decode method_3_code 58 = .ok (.iload_n 1, 1) := by decide +kernel
theorem d_method_3_code_59 : decode method_3_code 59 = .ok (.iconst 5, 1) := by decide +kernel
theorem d_method_3_code_60 : decode method_3_code 60 = .ok (.if_icmp .le 9, 3) := by decide +kernel
theorem d_method_3_code_63 : decode method_3_code 63 = .ok (.aload_n 2, 1) := by decide +kernel
theorem d_method_3_code_64 : decode method_3_code 64 = .ok (.iconst 5, 1) := by decide +kernel
theorem d_method_3_code_65 : decode method_3_code 65 = .ok (.aload_n 0, 1) := by decide +kernel
theorem d_method_3_code_66 : decode method_3_code 66 = .ok (.iconst 5, 1) := by decide +kernel
theorem d_method_3_code_67 : decode method_3_code 67 = .ok (.caload, 1) := by decide +kernel
theorem d_method_3_code_68 : decode method_3_code 68 = .ok (.castore, 1) := by decide +kernel
theorem d_method_3_code_69 : decode method_3_code 69 = .ok (.iload_n 1, 1) := by decide +kernel
theorem d_method_3_code_70 : decode method_3_code 70 = .ok (.bipush 6, 2) := by decide +kernel
theorem d_method_3_code_72 : decode method_3_code 72 = .ok (.if_icmp .le 11, 3) := by decide +kernel
theorem d_method_3_code_75 : decode method_3_code 75 = .ok (.aload_n 2, 1) := by decide +kernel
theorem d_method_3_code_76 : decode method_3_code 76 = .ok (.bipush 6, 2) := by decide +kernel
theorem d_method_3_code_78 : decode method_3_code 78 = .ok (.aload_n 0, 1) := by decide +kernel
theorem d_method_3_code_79 : decode method_3_code 79 = .ok (.bipush 6, 2) := by decide +kernel
theorem d_method_3_code_8 : decode method_3_code 8 = .ok (.aload_n 2, 1) := by decide +kernel
theorem d_method_3_code_81 : decode method_3_code 81 = .ok (.caload, 1) := by decide +kernel
theorem d_method_3_code_82 : decode method_3_code 82 = .ok (.castore, 1) := by decide +kernel
theorem d_method_3_code_83 : decode method_3_code 83 = .ok (.iload_n 1, 1) := by decide +kernel
theorem d_method_3_code_84 : decode method_3_code 84 = .ok (.bipush 7, 2) := by decide +kernel
theorem d_method_3_code_86 : decode method_3_code 86 = .ok (.if_icmp .le 11, 3) := by decide +kernel
theorem d_method_3_code_89 : decode method_3_code 89 = .ok (.aload_n 2, 1) := by decide +kernel
theorem d_method_3_code_9 : decode method_3_code 9 = .ok (.iconst 0, 1) := by decide +kernel
theorem d_method_3_code_90 : decode method_3_code 90 = .ok (.bipush 7, 2) := by decide +kernel
theorem d_method_3_code_92 : decode method_3_code 92 = .ok (.aload_n 0, 1) := by decide +kernel
theorem d_method_3_code_93 : decode method_3_code 93 = .ok (.bipush 7, 2) := by decide +kernel
theorem d_method_3_code_95 : decode method_3_code 95 = .ok (.caload, 1) := by decide +kernel
theorem d_method_3_code_96 : decode method_3_code 96 = .ok (.castore, 1) := by decide +kernel
theorem d_method_3_code_97 : decode method_3_code 97 = .ok (.aload_n 2, 1) := by decide +kernel
theorem d_method_3_code_98 : decode method_3_code 98 = .ok (.areturn, 1) := by decide +kernel
theorem d_prog_6_method_1_code_0 : decode prog_6_method_1_code 0 = .ok (.getstatic 10, 3) := by decide +kernel
theorem d_prog_6_method_1_code_3 : decode prog_6_method_1_code 3 = .ok (.invokevirtual 14, 3) := by decide +kernel
theorem d_prog_6_method_1_code_6 : decode prog_6_method_1_code 6 = .ok (.checkcast 15, 3) := by decide +kernel
theorem d_prog_6_method_1_code_9 : decode prog_6_method_1_code 9 = .ok (.areturn, 1) := by decide +kernel
theorem d_prog_6_method_6_code_0 : decode prog_6_method_6_code 0 = .ok (.aconst_null, 1) := by decide +kernel
theorem d_prog_6_method_6_code_1 : decode prog_6_method_6_code 1 = .ok (.astore_n 1, 1) := by decide +kernel
theorem d_prog_6_method_6_code_10 : decode prog_6_method_6_code 10 = .ok (.istore 4, 2) := by decide +kernel
theorem d_prog_6_method_6_code_12 : decode prog_6_method_6_code 12 = .ok (.iload 4, 2) := by decide +kernel
theorem d_prog_6_method_6_code_14 : decode prog_6_method_6_code 14 = .ok (.iload_n 3, 1) := by decide +kernel
theorem d_prog_6_method_6_code_15 : decode prog_6_method_6_code 15 = .ok (.if_icmp .ge 30, 3) := by decide +kernel
theorem d_prog_6_method_6_code_18 : decode prog_6_method_6_code 18 = .ok (.aload_n 2, 1) := by decide +kernel
theorem d_prog_6_method_6_code_19 : decode prog_6_method_6_code 19 = .ok (.iload 4, 2) := by decide +kernel
theorem d_prog_6_method_6_code_2 : decode prog_6_method_6_code 2 = .ok (.invokestatic 37, 3) := by decide +kernel
theorem d_prog_6_method_6_code_21 : decode prog_6_method_6_code 21 = .ok (.aaload, 1) := by decide +kernel
theorem d_prog_6_method_6_code_22 : decode prog_6_method_6_code 22 = .ok (.astore 5, 2) := by decide +kernel
theorem d_prog_6_method_6_code_24 : decode prog_6_method_6_code 24 = .ok (.aload 5, 2) := by decide +kernel
theorem d_prog_6_method_6_code_26 : decode prog_6_method_6_code 26 = .ok (.getfield 29, 3) := by decide +kernel
theorem d_prog_6_method_6_code_29 : decode prog_6_method_6_code 29 = .ok (.aload_n 0, 1) := by decide +kernel
theorem d_prog_6_method_6_code_30 : decode prog_6_method_6_code 30 = .ok (.invokevirtual 41, 3) := by decide +kernel
theorem d_prog_6_method_6_code_33 : decode prog_6_method_6_code 33 = .ok (.ifCond .eq 6, 3) := by decide +kernel
theorem d_prog_6_method_6_code_36 : decode prog_6_method_6_code 36 = .ok (.aload 5, 2) := by decide +kernel
theorem d_prog_6_method_6_code_38 : decode prog_6_method_6_code 38 = .ok (.astore_n 1, 1) := by decide +kernel
theorem d_prog_6_method_6_code_39 : decode prog_6_method_6_code 39 = .ok (.iinc 4 1, 3) := by decide +kernel
theorem d_prog_6_method_6_code_42 : decode prog_6_method_6_code 42 = .ok (.goto (-30), 3) := by decide +kernel
theorem d_prog_6_method_6_code_45 : decode prog_6_method_6_code 45 = .ok (.aload_n 1, 1) := by decide +kernel
theorem d_prog_6_method_6_code_46 : decode prog_6_method_6_code 46 = .ok (.areturn, 1) := by decide +kernel
theorem d_prog_6_method_6_code_5 : decode prog_6_method_6_code 5 = .ok (.astore_n 2, 1) := by decide +kernel
theorem d_prog_6_method_6_code_6 : decode prog_6_method_6_code 6 = .ok (.aload_n 2, 1) := by decide +kernel
theorem d_prog_6_method_6_code_7 : decode prog_6_method_6_code 7 = .ok (.arraylength, 1) := by decide +kernel
theorem d_prog_6_method_6_code_8 : decode prog_6_method_6_code 8 = .ok (.istore_n 3, 1) := by decide +kernel
theorem d_prog_6_method_6_code_9 : decode prog_6_method_6_code 9 = .ok (.iconst 0, 1) := by decide +kernel
theorem lat0 : ∀ c ∈ ([] : List Int32), ¬ c < 0 ∧ ¬ (255 : Int32) < c := fun _ q => nomatch q
theorem latc {x : Int32} {cs : List Int32} (q : ¬ x < 0 ∧ ¬ (255 : Int32) < x) (r : ∀ c ∈ cs, ¬ c < 0 ∧ ¬ (255 : Int32) < c) : ∀ c ∈ x :: cs, ¬ c < 0 ∧ ¬ (255 : Int32) < c := fun c z => (List.mem_cons.mp z).elim (fun u => u ▸ q) (r c)
theorem eqv_if {cs ds : List Int32} {v : Option Value} (h : (v = some (.int 1) ∧ cs = ds) ∨ (v = some (.int 0) ∧ ¬ cs = ds)) : v = some (.int (if cs = ds then (1 : Int32) else 0)) := by
  rcases h with ⟨a, b⟩ | ⟨a, b⟩
  · rw [a, if_pos b]
  · rw [a, if_neg b]
theorem sw_words {a0 : Array Value} {Z : State} (hw : ∀ d ∈ tables_1, d.before a0 Z = true) : ∀ d ∈ StrChars.Road.words, d.before a0 Z = true := fun d hd => hw d ((by decide +kernel : ∀ d ∈ StrChars.Road.words, d ∈ tables_1) d hd)
theorem sw_wordsEq {a0 : Array Value} {Z : State} (hw : ∀ d ∈ tables_1, d.before a0 Z = true) : ∀ d ∈ StrChars.Road.wordsEq, d.before a0 Z = true := fun d hd => hw d ((by decide +kernel : ∀ d ∈ StrChars.Road.wordsEq, d ∈ tables_1) d hd)
def EL : List (String × Nat) := [("com/example/patient_ledger/patientledger/EntryTypeFromWireNamePinLaw", 25), ("com/example/patient_ledger/patientledger/EntryTypeFromWireNamePinLaw", 37), ("java/lang/String", 7)]
theorem hEL_ {Z : State} {a0 : Array Value} (hw : ∀ d ∈ tables_1, d.before a0 Z = true) : EW Z a0 EL := (EW.cons (wd_34 hw) (by decide) (EW.cons (wd_77 hw) (by decide) (EW.cons (wd_79 hw) (by decide) EW.nil)))
theorem hwS_ {Z : State} {a0 : Array Value} (hw : ∀ d ∈ tables_1, d.before a0 Z = true) : ∀ d ∈ Bundle.stringAtoms, d.before a0 Z = true := fun d hd => hw d ((by decide +kernel : ∀ d ∈ Bundle.stringAtoms, d ∈ tables_1) d hd)
def St (Z : State) (zc : Int32) (va : Addr) (kv : ClassId) (ea : Addr) (eb : Addr) (wa : Addr) (wb : Addr) : Prop := Sta Z Z.heap "java/lang/String" "COMPACT_STRINGS" "Z" (.int zc) ∧ ¬ zc = 0 ∧ Sta Z Z.heap "com/example/patient_ledger/patientledger/EntryType" "$VALUES" "[Lcom/example/patient_ledger/patientledger/EntryType;" (.ref va) ∧ Exa Z Z.heap va "[Lcom/example/patient_ledger/patientledger/EntryType;" ∧ Arv Z Z.heap va kv (.object "com/example/patient_ledger/patientledger/EntryType") (2 : Int32) [(.ref ea), (.ref eb)] .null ∧ Sta Z Z.heap "com/example/patient_ledger/patientledger/EntryType" "DEBIT" "Lcom/example/patient_ledger/patientledger/EntryType;" (.ref ea) ∧ Fld Z Z.heap ea "com/example/patient_ledger/patientledger/EntryType" "wireName" "Ljava/lang/String;" (.ref wa) ∧ Str Z (Z.heap).size (Z.heap) wa ([(100 : Int32), (101 : Int32), (98 : Int32), (105 : Int32), (116 : Int32)] : List Int32) ∧ Sta Z Z.heap "com/example/patient_ledger/patientledger/EntryType" "CREDIT" "Lcom/example/patient_ledger/patientledger/EntryType;" (.ref eb) ∧ Fld Z Z.heap eb "com/example/patient_ledger/patientledger/EntryType" "wireName" "Ljava/lang/String;" (.ref wb) ∧ Str Z (Z.heap).size (Z.heap) wb ([(99 : Int32), (114 : Int32), (101 : Int32), (100 : Int32), (105 : Int32), (116 : Int32)] : List Int32)
theorem nar255 (x : Int32) : nar .char (x &&& (255 : Int32)) = x &&& (255 : Int32) := i2c_mask x
theorem lat255 (x : Int32) : ¬ (x &&& (255 : Int32)) < 0 ∧ ¬ (255 : Int32) < x &&& (255 : Int32) := by
  have h := c_mask x 255 8 (by decide) (by decide)
  have e1 : (255 : Int32).toInt = 255 := by decide
  have e2 : (0 : Int32).toInt = 0 := by decide
  rw [Int32.lt_iff_toInt_lt, Int32.lt_iff_toInt_lt, h]
  omega
theorem latI {x : Int32} (h : ¬ x < 0 ∧ ¬ (255 : Int32) < x) : 0 ≤ x.toInt ∧ x.toInt ≤ 255 := by
  have e1 : (255 : Int32).toInt = 255 := by decide
  have e2 : (0 : Int32).toInt = 0 := by decide
  rw [Int32.lt_iff_toInt_lt, Int32.lt_iff_toInt_lt] at h
  omega
theorem nar_lat {x : Int32} (h : ¬ x < 0 ∧ ¬ (255 : Int32) < x) : nar .char x = x := by
  have q := latI h
  have r := c_i2c x
  have s := rng32 x
  apply Int32.toInt_inj.mp
  show x.toUInt32.toUInt16.toUInt32.toInt32.toInt = x.toInt
  omega
theorem i8_inj {x y : Int32} (hx : ¬ x < 0 ∧ ¬ (255 : Int32) < x) (hy : ¬ y < 0 ∧ ¬ (255 : Int32) < y) (e : x.toInt8.toInt32 = y.toInt8.toInt32) : x = y := by
  have a := latI hx
  have b := latI hy
  have r := c_i2b x
  have s := c_i2b y
  rw [e] at r
  apply Int32.toInt_inj.mp
  omega
theorem bytes_getD (cs : List Int32) (i : Nat) : ((cs.map fun c => c.toInt8.toInt32).map Value.int).getD i (.int (0 : Int32)) = .int (cs.getD i 0).toInt8.toInt32 := by
  rw [List.map_map, List.getD_eq_getElem?_getD, List.getD_eq_getElem?_getD, List.getElem?_map]
  cases cs[i]? <;> rfl
theorem ofNat_toInt {k : Nat} (h : k ≤ 100000) : (Int32.ofNat k).toInt = k := Int32.toInt_ofNat_small (by omega)
theorem lt_ofNat {k i : Nat} {j : Int32} (h : k ≤ 100000) (e : j.toInt = i) (q : i < k) : ¬ j < 0 ∧ j < Int32.ofNat k := by
  rw [Int32.lt_iff_toInt_lt, Int32.lt_iff_toInt_lt, ofNat_toInt h, e]
  have e2 : (0 : Int32).toInt = 0 := by decide
  omega
theorem sub_lt0 {k n : Nat} {j : Int32} (h : k ≤ 100000) (e : j.toInt = n) (q : n ≤ 100000) : (Int32.ofNat k - j) < 0 ↔ k < n := by
  have a := c_isub (Int32.ofNat k) j
  have b := rng32 (Int32.ofNat k - j)
  rw [ofNat_toInt h, e] at a
  have e2 : (0 : Int32).toInt = 0 := by decide
  rw [Int32.lt_iff_toInt_lt, e2]
  omega
theorem b01_iff {P Q : Prop} [Decidable P] [Decidable Q] (h : P ↔ Q) : (if P then (1 : Int32) else 0) = (if Q then (1 : Int32) else 0) := by
  by_cases q : P
  · rw [if_pos q, if_pos (h.mp q)]
  · rw [if_neg q, if_neg (fun z => q (h.mpr z))]

def fwv (ea eb : Addr) (cs : List Int32) : Value := if cs = ([(100 : Int32), (101 : Int32), (98 : Int32), (105 : Int32), (116 : Int32)] : List Int32) then .ref ea else if cs = ([(99 : Int32), (114 : Int32), (101 : Int32), (100 : Int32), (105 : Int32), (116 : Int32)] : List Int32) then .ref eb else .null
theorem fwv_ref {ea eb : Addr} {cs : List Int32} : (fwv ea eb cs).isRef = true := by unfold fwv; repeat (first | rfl | split)
--@C values
def Q_values (Z : State) (zc : Int32) (va : Addr) (kv : ClassId) (ea : Addr) (eb : Addr) (wa : Addr) (wb : Addr) (h0 : Heap) (n0 : Nat) (v : Option Value) (h : Heap) (L : List Loc) : Prop := ∃ (r : Addr), v = some (.ref r) ∧ Fr n0 L ∧ Keep h0 h [] ∧ h0.size ≤ r ∧ Arv Z h r kv (.object "com/example/patient_ledger/patientledger/EntryType") (2 : Int32) [(.ref ea), (.ref eb)] .null
set_option maxRecDepth 65536 in
set_option maxHeartbeats 40000000 in
theorem rm_values (l : Launch) (Z : State) (a0 : Array Value) (hw : ∀ d ∈ tables_1, d.before a0 Z = true) (zc : Int32) (va : Addr) (kv : ClassId) (ea : Addr) (eb : Addr) (wa : Addr) (wb : Addr) (h0 : Heap) (n0 : Nat) (Z0 : n0 ≤ h0.size) (hSt : St Z zc va kv ea eb wa wb) (hO : Old Z n0 h0) :
    CN l Z ({ cls := "com/example/patient_ledger/patientledger/EntryType", name := "values", desc := "()[Lcom/example/patient_ledger/patientledger/EntryType;" } : Jvm.MethodName) [(Jvm.Cond.code ({ cls := "com/example/patient_ledger/patientledger/EntryType", name := "values", desc := "()[Lcom/example/patient_ledger/patientledger/EntryType;" } : Jvm.MethodName) prog_6_method_1_code (0 : Nat) (Option.some (Jvm.ClassFile.FieldType.array (Jvm.ClassFile.FieldType.object "com/example/patient_ledger/patientledger/EntryType"))))] ({ frames := 1, cells := 1, slots := 2, locals := 14 } : Room) #[] h0 (Q_values Z zc va kv ea eb wa wb h0 n0) := by
  refine CN.of (L0 := #[]) (plainFor_of_name pn_0) (fun m => by first | (simp [entryFrame, mkF, argsToLocals, Value.category]; done) | rfl) ?_
  intro p e s m below meth c s₁ hx hby hml hret hlk hZ hown hnm X0 e0
  have N0 := Fr.nil n0
  have KP0 := Keep.refl h0 []
  have hSt_ := hSt
  obtain ⟨S_cs, n_cs, S_va, E_va, A_va, S_ea, F_ea, S_wa, S_eb, F_eb, S_wb⟩ := hSt_
  show Go p e below _ (s₁.setTop (mkF m 0 #[] []))
  obtain ⟨T_1, X_1, e_1, st_1⟩ := getS2 X0 hx hZ hown (host := "") (Or.inl (wd_56 hw)) Via.refl e0 (S_va.ext hO.2) (g := (mkF m 0 #[] [])) rfl (hb hby d_prog_6_method_1_code_0)
  refine Go.step st_1 ?_
  show Go p e below _ (T_1.setTop (mkF m 3 #[] [(.ref va)]))
  obtain ⟨T_2, h_2, X_2, e_2, E_2, A_2, B_2, st_2⟩ := cloneH X_1 hx hZ hown (wd_58 hw) (wd_59 hw) (wd_63 hw) (wd_61 hw) (wd_62 hw) (wd_64 hw) e_1 (Arv.arh (A_va.ext hO.2)) (E_va.ext hO.2) (g := (mkF m 3 #[] [(.ref va)])) rfl (by rw [hml]; rfl) rfl (hb hby d_prog_6_method_1_code_3) (by decide) (W := 0) (cap := 2) (by show 2 * 0 + _ ≤ _; exact Nat.le_of_eq rfl) (by decide) (by decide) (by decide) (by decide)
  obtain ⟨b2, q_2⟩ : ∃ z, z = h0.size := ⟨_, rfl⟩
  rw [← q_2] at A_2 B_2 st_2
  refine Go.step st_2 ?_
  have le_2 : h0.size ≤ h_2.size := E_2.1
  have KP_2 := KP0.ext E_2
  have O_2 := hO.ext E_2
  have ge_2 : h0.size ≤ b2 := Nat.le_of_eq q_2.symm
  have sz_b2 : h0.size ≤ b2 := Nat.le_trans (Nat.le_refl _) ge_2
  have g_b2 : n0 ≤ b2 := Nat.le_trans Z0 sz_b2
  have V_2 : Arv Z h_2 b2 kv (.object "com/example/patient_ledger/patientledger/EntryType") (2 : Int32) [(.ref ea), (.ref eb)] .null := A_2
  show Go p e below _ (T_2.setTop (mkF m 6 #[] [(.ref b2)]))
  obtain ⟨T_3, X_3, e_3, st_3⟩ := castY X_2 hx hZ hown (wd_67 hw) e_2 (Ins.self B_2) (g := (mkF m 6 #[] [(.ref b2)])) rfl rfl (hb hby d_prog_6_method_1_code_6)
  refine Go.step st_3 ?_
  show Go p e below _ (T_3.setTop (mkF m 9 #[] [(.ref b2)]))
  exact Go.retV X_3 hx hlk hret rfl (Or.inr (Or.inr (Or.inr (Or.inr ⟨rfl, rfl, rfl⟩)))) (hb hby d_prog_6_method_1_code_9) (by decide) (by decide) (by rw [e_3]; exact ⟨b2, rfl, N0, KP_2, sz_b2, V_2⟩)
--@E
--@C fw
def Q_fw (Z : State) (zc : Int32) (va : Addr) (kv : ClassId) (ea : Addr) (eb : Addr) (wa : Addr) (wb : Addr) (a1 : Addr) (cs : List Int32) (h0 : Heap) (n0 : Nat) (v : Option Value) (h : Heap) (L : List Loc) : Prop := v = some (fwv ea eb cs) ∧ Fr n0 L ∧ Keep h0 h []
set_option maxRecDepth 65536 in
set_option maxHeartbeats 40000000 in
theorem rm_fw (l : Launch) (Z : State) (a0 : Array Value) (hw : ∀ d ∈ tables_1, d.before a0 Z = true) (zc : Int32) (va : Addr) (kv : ClassId) (ea : Addr) (eb : Addr) (wa : Addr) (wb : Addr) (a1 : Addr) (cs : List Int32) (h0 : Heap) (n0 : Nat) (Z0 : n0 ≤ h0.size) (S_a1 : Str Z h0.size h0 a1 cs) (hSt : St Z zc va kv ea eb wa wb) (hO : Old Z n0 h0) :
    CN l Z ({ cls := "com/example/patient_ledger/patientledger/EntryType", name := "fromWireName", desc := "(Ljava/lang/String;)Lcom/example/patient_ledger/patientledger/EntryType;" } : Jvm.MethodName) [(Jvm.Cond.code ({ cls := "com/example/patient_ledger/patientledger/EntryType", name := "fromWireName", desc := "(Ljava/lang/String;)Lcom/example/patient_ledger/patientledger/EntryType;" } : Jvm.MethodName) prog_6_method_6_code (6 : Nat) (Option.some (Jvm.ClassFile.FieldType.object "com/example/patient_ledger/patientledger/EntryType")))] ({ frames := 2, cells := 1, slots := 2, locals := 28 } : Room) #[(.ref a1)] h0 (Q_fw Z zc va kv ea eb wa wb a1 cs h0 n0) := by
  refine CN.of (L0 := #[vR a1, vU, vU, vU, vU, vU]) (plainFor_of_name pn_0) (fun m => by first | (simp [entryFrame, mkF, argsToLocals, Value.category]; done) | rfl) ?_
  intro p e s m below meth c s₁ hx hby hml hret hlk hZ hown hnm X0 e0
  have N0 := Fr.nil n0
  have KP0 := Keep.refl h0 []
  have hSt_ := hSt
  obtain ⟨S_cs, n_cs, S_va, E_va, A_va, S_ea, F_ea, S_wa, S_eb, F_eb, S_wb⟩ := hSt_
  show Go p e below _ (s₁.setTop (mkF m 0 #[vR a1, vU, vU, vU, vU, vU] []))
  refine Go.step (fun _ k => XS.aconstNull X0.here hx rfl (hb hby d_prog_6_method_6_code_0) k) ?_
  show Go p e below _ (s₁.setTop (mkF m 1 #[vR a1, vU, vU, vU, vU, vU] [.null]))
  refine Go.step (fun _ k => XS.astoreN X0.here hx rfl (hb hby d_prog_6_method_6_code_1) rfl rfl (l' := #[vR a1, .val .null, vU, vU, vU, vU]) rfl k) ?_
  show Go p e below _ (s₁.setTop (mkF m 2 #[vR a1, .val .null, vU, vU, vU, vU] []))
  obtain ⟨v_4, T_4, L_4, X_4, hQ_4, st_4⟩ := goS X0 hx hZ (y := Y_0) hown (wd_53 hw) (wd_54 hw) (wd_48 hw) (wd_55 hw) (by decide) (backOf (W := 0) (rm_values l Z a0 hw zc va kv ea eb wa wb h0 n0 (Nat.le_trans Z0 KP0.1) hSt hO) hZ (wd_55 hw) (wd_48 hw) (by decide) (by decide)) e0 (g := (mkF m 2 #[vR a1, .val .null, vU, vU, vU, vU] [])) rfl (by rw [hml]; rfl) (argsL := []) (rest := []) rfl (lenOf pd_0 rfl) rfl (by show 2 * 0 + _ ≤ _; exact Nat.le_of_eq rfl) (hb hby d_prog_6_method_6_code_2) (by decide) (by decide)
  obtain ⟨r_4, rfl, Nq_4, K_4, u0_4, u1_4⟩ := hQ_4
  have N_4 := Fr.app N0 Nq_4
  have le_4 : h0.size ≤ T_4.heap.size := K_4.1
  have KP_4 := KP0.trans K_4 all0
  have O_4 := hO.keep K_4 all0
  have sz_r_4 : h0.size ≤ r_4 := Nat.le_trans (Nat.le_refl _) u0_4
  have g_r_4 : n0 ≤ r_4 := Nat.le_trans Z0 sz_r_4
  refine Go.step st_4 ?_
  show Go p e below _ (T_4.setTop (mkF m 5 #[vR a1, .val .null, vU, vU, vU, vU] [(.ref r_4)]))
  refine Go.step (fun _ k => XS.astoreN X_4.here hx rfl (hb hby d_prog_6_method_6_code_5) rfl rfl (l' := #[vR a1, .val .null, vR r_4, vU, vU, vU]) rfl k) ?_
  show Go p e below _ (T_4.setTop (mkF m 6 #[vR a1, .val .null, vR r_4, vU, vU, vU] []))
  refine Go.step (fun _ k => XS.aloadN X_4.here hx rfl (hb hby d_prog_6_method_6_code_6) rfl rfl k) ?_
  show Go p e below _ (T_4.setTop (mkF m 7 #[vR a1, .val .null, vR r_4, vU, vU, vU] [(.ref r_4)]))
  have cp6 := u1_4
  obtain ⟨cl_5, Ar_5, -, Sz_5, Ng_5, -, -⟩ := cp6
  refine Go.step (fun _ k => X_4.arraylength hx (by exact Ar_5.1) (State.isArrayOf_alike hZ.alike Ar_5.2.1) (g := (mkF m 7 #[vR a1, .val .null, vR r_4, vU, vU, vU] [(.ref r_4)])) rfl rfl (hb hby d_prog_6_method_6_code_7) _ k) ?_
  rw [len_of Sz_5 Ng_5]
  show Go p e below _ (T_4.setTop (mkF m 8 #[vR a1, .val .null, vR r_4, vU, vU, vU] [(.int (2 : Int32))]))
  refine Go.step (fun _ k => XS.istoreN X_4.here hx rfl (hb hby d_prog_6_method_6_code_8) rfl (l' := #[vR a1, .val .null, vR r_4, vI 2, vU, vU]) rfl k) ?_
  show Go p e below _ (T_4.setTop (mkF m 9 #[vR a1, .val .null, vR r_4, vI 2, vU, vU] []))
  refine Go.step (fun _ k => XS.iconst X_4.here hx rfl (hb hby d_prog_6_method_6_code_9) k) ?_
  show Go p e below _ (T_4.setTop (mkF m 10 #[vR a1, .val .null, vR r_4, vI 2, vU, vU] [(.int (0 : Int32))]))
  refine Go.step (fun _ k => XS.istore X_4.here hx rfl (hb hby d_prog_6_method_6_code_10) rfl (l' := #[vR a1, .val .null, vR r_4, vI 2, vI 0, vU]) rfl k) ?_
  show Go p e below _ (T_4.setTop (mkF m 12 #[vR a1, .val .null, vR r_4, vI 2, vI 0, vU] []))
  refine Go.step (fun _ k => XS.iload X_4.here hx rfl (hb hby d_prog_6_method_6_code_12) rfl  k) ?_
  refine Go.step (fun _ k => XS.iloadN X_4.here hx rfl (hb hby d_prog_6_method_6_code_14) rfl  k) ?_
  show Go p e below _ (T_4.setTop (mkF m 15 #[vR a1, .val .null, vR r_4, vI 2, vI 0, vU] [(.int (2 : Int32)), (.int (0 : Int32))]))
  refine Go.step (fun _ k => XS.icmpNo X_4.here hx rfl (hb hby d_prog_6_method_6_code_15) rfl (tlt ((by decide) : (0 : Int32) < (2 : Int32))).2.1 k) ?_
  show Go p e below _ (T_4.setTop (mkF m 18 #[vR a1, .val .null, vR r_4, vI 2, vI 0, vU] []))
  refine Go.step (fun _ k => XS.aloadN X_4.here hx rfl (hb hby d_prog_6_method_6_code_18) rfl rfl k) ?_
  refine Go.step (fun _ k => XS.iload X_4.here hx rfl (hb hby d_prog_6_method_6_code_19) rfl  k) ?_
  show Go p e below _ (T_4.setTop (mkF m 21 #[vR a1, .val .null, vR r_4, vI 2, vI 0, vU] [(.int (0 : Int32)), (.ref r_4)]))
  have cp8 := u1_4
  obtain ⟨cl_7, Ar_7, -, Sz_7, -, Hs_7, -⟩ := cp8
  have hin_7 : ¬ ((0 : Int32) < 0 ∨ cl_7.slots.size ≤ ((0 : Int32)).toNatClampNeg) := (inb_of Sz_7 ⟨by decide, by decide⟩)
  have hat_7 : cl_7.slots[((0 : Int32)).toNatClampNeg]? = some (.ref ea) := (Hs_7.at (inb_of Sz_7 ⟨by decide, by decide⟩) rfl)
  refine Go.step (fun _ k => X_4.aaload hx (j := (0 : Int32)) (v := (.ref ea)) (by exact Ar_7.1) (State.isArrayOf_alike hZ.alike Ar_7.2.1) rfl Ar_7.2.2 hin_7 hat_7 (g := (mkF m 21 #[vR a1, .val .null, vR r_4, vI 2, vI 0, vU] [(.int (0 : Int32)), (.ref r_4)])) rfl rfl (hb hby d_prog_6_method_6_code_21) _ k) ?_
  show Go p e below _ (T_4.setTop (mkF m 22 #[vR a1, .val .null, vR r_4, vI 2, vI 0, vU] [(.ref ea)]))
  refine Go.step (fun _ k => XS.astore X_4.here hx rfl (hb hby d_prog_6_method_6_code_22) rfl rfl (l' := #[vR a1, .val .null, vR r_4, vI 2, vI 0, vR ea]) rfl k) ?_
  show Go p e below _ (T_4.setTop (mkF m 24 #[vR a1, .val .null, vR r_4, vI 2, vI 0, vR ea] []))
  refine Go.step (fun _ k => XS.aload X_4.here hx rfl (hb hby d_prog_6_method_6_code_24) rfl rfl k) ?_
  show Go p e below _ (T_4.setTop (mkF m 26 #[vR a1, .val .null, vR r_4, vI 2, vI 0, vR ea] [(.ref ea)]))
  obtain ⟨T_9, X_9, e_9, st_9⟩ := getF X_4 hx hZ hown (host := "") (Or.inl (wd_69 hw)) Via.refl rfl (F_ea.ext O_4.2) (g := (mkF m 26 #[vR a1, .val .null, vR r_4, vI 2, vI 0, vR ea] [(.ref ea)])) rfl rfl (hb hby d_prog_6_method_6_code_26)
  refine Go.step st_9 ?_
  show Go p e below _ (T_9.setTop (mkF m 29 #[vR a1, .val .null, vR r_4, vI 2, vI 0, vR ea] [(.ref wa)]))
  refine Go.step (fun _ k => XS.aloadN X_9.here hx rfl (hb hby d_prog_6_method_6_code_29) rfl rfl k) ?_
  show Go p e below _ (T_9.setTop (mkF m 30 #[vR a1, .val .null, vR r_4, vI 2, vI 0, vR ea] [(.ref a1), (.ref wa)]))
  have cp10 := (S_wa.ext O_4.2)
  obtain ⟨t11, kb11, -, -, Ex11, Fv11, Fc11, Av11, hl11, hn11⟩ := cp10
  have f12 : Str Z h0.size T_4.heap a1 cs := (S_a1.keep K_4 all0)
  have cp13 := f12
  obtain ⟨t14, kb14, -, -, Ex14, Fv14, Fc14, Av14, hl14, hn14⟩ := cp13
  obtain ⟨v_15, T_15, L_15, X_15, hQ_15, st_15⟩ := goV X_9 hx hZ (y := Y_1) (z := Y_1) (kc := 0) (ks := 0) (QQ := fun v h' L => ((v = some (.int 1) ∧ ([(100 : Int32), (101 : Int32), (98 : Int32), (105 : Int32), (116 : Int32)] : List Int32) = cs) ∨ (v = some (.int 0) ∧ ¬ ([(100 : Int32), (101 : Int32), (98 : Int32), (105 : Int32), (116 : Int32)] : List Int32) = cs)) ∧ L = [] ∧ h' = T_4.heap) hown (wd_71 hw) (wd_38 hw) (notFace_of_selects (args := #[]) (mvT hZ (wd_40 hw))) (wd_40 hw) (wd_39 hw) (by decide) (StrChars.Road.eqW (W := 0) hZ (sw_wordsEq hw) (kI := 4) (wd_2 hw) Ex11 Fv11 Fc11 Av11 (StrChars.Road.codOf rfl (fun c hc => (hl11 c hc).2)) (up255 hl11) hn11 Ex14 Fv14 Fc14 Av14 (StrChars.Road.codOf rfl (fun c hc => (hl14 c hc).2)) (up255 hl14) hn14 (S_cs.ext O_4.2) n_cs (by decide) (by decide)) e_9 Ex11 (g := (mkF m 30 #[vR a1, .val .null, vR r_4, vI 2, vI 0, vR ea] [(.ref a1), (.ref wa)])) rfl (by rw [hml]; rfl) (argsL := [(.ref a1)]) (rest := []) rfl (lenOf pd_1 rfl) rfl (by show 2 * 0 + _ ≤ _; exact Nat.le_of_eq rfl) (hb hby d_prog_6_method_6_code_30) (by decide) (by decide)
  obtain ⟨hv_15, rfl, e_15⟩ := hQ_15
  obtain rfl := eqv_if hv_15
  have N_15 := Fr.app N_4 (Fr.nil n0)
  refine Go.step st_15 ?_
  show Go p e below _ (T_15.setTop (mkF m 33 #[vR a1, .val .null, vR r_4, vI 2, vI 0, vR ea] [(.int (if ([(100 : Int32), (101 : Int32), (98 : Int32), (105 : Int32), (116 : Int32)] : List Int32) = cs then (1 : Int32) else 0))]))
  by_cases y0 : ([(100 : Int32), (101 : Int32), (98 : Int32), (105 : Int32), (116 : Int32)] : List Int32) = cs
  · skip
    refine Go.step (fun _ k => XS.ifNo X_15.here hx rfl (hb hby d_prog_6_method_6_code_33) rfl ((if0 _ _).trans (feq (b01_ne y0)).1) k) ?_
    show Go p e below _ (T_15.setTop (mkF m 36 #[vR a1, .val .null, vR r_4, vI 2, vI 0, vR ea] []))
    refine Go.step (fun _ k => XS.aload X_15.here hx rfl (hb hby d_prog_6_method_6_code_36) rfl rfl k) ?_
    show Go p e below _ (T_15.setTop (mkF m 38 #[vR a1, .val .null, vR r_4, vI 2, vI 0, vR ea] [(.ref ea)]))
    refine Go.step (fun _ k => XS.astoreN X_15.here hx rfl (hb hby d_prog_6_method_6_code_38) rfl rfl (l' := #[vR a1, vR ea, vR r_4, vI 2, vI 0, vR ea]) rfl k) ?_
    show Go p e below _ (T_15.setTop (mkF m 39 #[vR a1, vR ea, vR r_4, vI 2, vI 0, vR ea] []))
    refine Go.step (fun _ k => XS.iinc X_15.here hx rfl (hb hby d_prog_6_method_6_code_39) rfl (l' := #[vR a1, vR ea, vR r_4, vI 2, vI ((0 : Int32) + (1 : Int32)), vR ea]) rfl k) ?_
    show Go p e below _ (T_15.setTop (mkF m 42 #[vR a1, vR ea, vR r_4, vI 2, vI ((0 : Int32) + (1 : Int32)), vR ea] []))
    rw [show ((0 : Int32) + (1 : Int32)) = (1 : Int32) from by decide]
    show Go p e below _ (T_15.setTop (mkF m 42 #[vR a1, vR ea, vR r_4, vI 2, vI 1, vR ea] []))
    refine Go.step (fun _ k => XS.goto X_15.here hx rfl (pc0 := 42) (pc' := 12) rfl (hb hby d_prog_6_method_6_code_42) (by decide) (by decide) k) ?_
    show Go p e below _ (T_15.setTop (mkF m 12 #[vR a1, vR ea, vR r_4, vI 2, vI 1, vR ea] []))
    refine Go.step (fun _ k => XS.iload X_15.here hx rfl (hb hby d_prog_6_method_6_code_12) rfl  k) ?_
    refine Go.step (fun _ k => XS.iloadN X_15.here hx rfl (hb hby d_prog_6_method_6_code_14) rfl  k) ?_
    show Go p e below _ (T_15.setTop (mkF m 15 #[vR a1, vR ea, vR r_4, vI 2, vI 1, vR ea] [(.int (2 : Int32)), (.int (1 : Int32))]))
    refine Go.step (fun _ k => XS.icmpNo X_15.here hx rfl (hb hby d_prog_6_method_6_code_15) rfl (tlt ((by decide) : (1 : Int32) < (2 : Int32))).2.1 k) ?_
    show Go p e below _ (T_15.setTop (mkF m 18 #[vR a1, vR ea, vR r_4, vI 2, vI 1, vR ea] []))
    refine Go.step (fun _ k => XS.aloadN X_15.here hx rfl (hb hby d_prog_6_method_6_code_18) rfl rfl k) ?_
    refine Go.step (fun _ k => XS.iload X_15.here hx rfl (hb hby d_prog_6_method_6_code_19) rfl  k) ?_
    show Go p e below _ (T_15.setTop (mkF m 21 #[vR a1, vR ea, vR r_4, vI 2, vI 1, vR ea] [(.int (1 : Int32)), (.ref r_4)]))
    have cp17 := u1_4
    obtain ⟨cl_16, Ar_16, -, Sz_16, -, Hs_16, -⟩ := cp17
    have hin_16 : ¬ ((1 : Int32) < 0 ∨ cl_16.slots.size ≤ ((1 : Int32)).toNatClampNeg) := (inb_of Sz_16 ⟨by decide, by decide⟩)
    have hat_16 : cl_16.slots[((1 : Int32)).toNatClampNeg]? = some (.ref eb) := (Hs_16.at (inb_of Sz_16 ⟨by decide, by decide⟩) rfl)
    refine Go.step (fun _ k => X_15.aaload hx (j := (1 : Int32)) (v := (.ref eb)) (by rw [e_15]; exact Ar_16.1) (State.isArrayOf_alike hZ.alike Ar_16.2.1) rfl Ar_16.2.2 hin_16 hat_16 (g := (mkF m 21 #[vR a1, vR ea, vR r_4, vI 2, vI 1, vR ea] [(.int (1 : Int32)), (.ref r_4)])) rfl rfl (hb hby d_prog_6_method_6_code_21) _ k) ?_
    show Go p e below _ (T_15.setTop (mkF m 22 #[vR a1, vR ea, vR r_4, vI 2, vI 1, vR ea] [(.ref eb)]))
    refine Go.step (fun _ k => XS.astore X_15.here hx rfl (hb hby d_prog_6_method_6_code_22) rfl rfl (l' := #[vR a1, vR ea, vR r_4, vI 2, vI 1, vR eb]) rfl k) ?_
    show Go p e below _ (T_15.setTop (mkF m 24 #[vR a1, vR ea, vR r_4, vI 2, vI 1, vR eb] []))
    refine Go.step (fun _ k => XS.aload X_15.here hx rfl (hb hby d_prog_6_method_6_code_24) rfl rfl k) ?_
    show Go p e below _ (T_15.setTop (mkF m 26 #[vR a1, vR ea, vR r_4, vI 2, vI 1, vR eb] [(.ref eb)]))
    obtain ⟨T_18, X_18, e_18, st_18⟩ := getF X_15 hx hZ hown (host := "") (Or.inl (wd_69 hw)) Via.refl e_15 (F_eb.ext O_4.2) (g := (mkF m 26 #[vR a1, vR ea, vR r_4, vI 2, vI 1, vR eb] [(.ref eb)])) rfl rfl (hb hby d_prog_6_method_6_code_26)
    refine Go.step st_18 ?_
    show Go p e below _ (T_18.setTop (mkF m 29 #[vR a1, vR ea, vR r_4, vI 2, vI 1, vR eb] [(.ref wb)]))
    refine Go.step (fun _ k => XS.aloadN X_18.here hx rfl (hb hby d_prog_6_method_6_code_29) rfl rfl k) ?_
    show Go p e below _ (T_18.setTop (mkF m 30 #[vR a1, vR ea, vR r_4, vI 2, vI 1, vR eb] [(.ref a1), (.ref wb)]))
    have cp19 := (S_wb.ext O_4.2)
    obtain ⟨t20, kb20, -, -, Ex20, Fv20, Fc20, Av20, hl20, hn20⟩ := cp19
    have cp21 := f12
    obtain ⟨t22, kb22, -, -, Ex22, Fv22, Fc22, Av22, hl22, hn22⟩ := cp21
    obtain ⟨v_23, T_23, L_23, X_23, hQ_23, st_23⟩ := goV X_18 hx hZ (y := Y_1) (z := Y_1) (kc := 0) (ks := 0) (QQ := fun v h' L => ((v = some (.int 1) ∧ ([(99 : Int32), (114 : Int32), (101 : Int32), (100 : Int32), (105 : Int32), (116 : Int32)] : List Int32) = cs) ∨ (v = some (.int 0) ∧ ¬ ([(99 : Int32), (114 : Int32), (101 : Int32), (100 : Int32), (105 : Int32), (116 : Int32)] : List Int32) = cs)) ∧ L = [] ∧ h' = T_4.heap) hown (wd_71 hw) (wd_38 hw) (notFace_of_selects (args := #[]) (mvT hZ (wd_40 hw))) (wd_40 hw) (wd_39 hw) (by decide) (StrChars.Road.eqW (W := 0) hZ (sw_wordsEq hw) (kI := 4) (wd_2 hw) Ex20 Fv20 Fc20 Av20 (StrChars.Road.codOf rfl (fun c hc => (hl20 c hc).2)) (up255 hl20) hn20 Ex22 Fv22 Fc22 Av22 (StrChars.Road.codOf rfl (fun c hc => (hl22 c hc).2)) (up255 hl22) hn22 (S_cs.ext O_4.2) n_cs (by decide) (by decide)) e_18 Ex20 (g := (mkF m 30 #[vR a1, vR ea, vR r_4, vI 2, vI 1, vR eb] [(.ref a1), (.ref wb)])) rfl (by rw [hml]; rfl) (argsL := [(.ref a1)]) (rest := []) rfl (lenOf pd_1 rfl) rfl (by show 2 * 0 + _ ≤ _; exact Nat.le_of_eq rfl) (hb hby d_prog_6_method_6_code_30) (by decide) (by decide)
    obtain ⟨hv_23, rfl, e_23⟩ := hQ_23
    obtain rfl := eqv_if hv_23
    have N_23 := Fr.app N_15 (Fr.nil n0)
    refine Go.step st_23 ?_
    show Go p e below _ (T_23.setTop (mkF m 33 #[vR a1, vR ea, vR r_4, vI 2, vI 1, vR eb] [(.int (if ([(99 : Int32), (114 : Int32), (101 : Int32), (100 : Int32), (105 : Int32), (116 : Int32)] : List Int32) = cs then (1 : Int32) else 0))]))
    by_cases y1 : ([(99 : Int32), (114 : Int32), (101 : Int32), (100 : Int32), (105 : Int32), (116 : Int32)] : List Int32) = cs
    · skip
      refine Go.step (fun _ k => XS.ifNo X_23.here hx rfl (hb hby d_prog_6_method_6_code_33) rfl ((if0 _ _).trans (feq (b01_ne y1)).1) k) ?_
      show Go p e below _ (T_23.setTop (mkF m 36 #[vR a1, vR ea, vR r_4, vI 2, vI 1, vR eb] []))
      refine Go.step (fun _ k => XS.aload X_23.here hx rfl (hb hby d_prog_6_method_6_code_36) rfl rfl k) ?_
      show Go p e below _ (T_23.setTop (mkF m 38 #[vR a1, vR ea, vR r_4, vI 2, vI 1, vR eb] [(.ref eb)]))
      refine Go.step (fun _ k => XS.astoreN X_23.here hx rfl (hb hby d_prog_6_method_6_code_38) rfl rfl (l' := #[vR a1, vR eb, vR r_4, vI 2, vI 1, vR eb]) rfl k) ?_
      show Go p e below _ (T_23.setTop (mkF m 39 #[vR a1, vR eb, vR r_4, vI 2, vI 1, vR eb] []))
      refine Go.step (fun _ k => XS.iinc X_23.here hx rfl (hb hby d_prog_6_method_6_code_39) rfl (l' := #[vR a1, vR eb, vR r_4, vI 2, vI ((1 : Int32) + (1 : Int32)), vR eb]) rfl k) ?_
      show Go p e below _ (T_23.setTop (mkF m 42 #[vR a1, vR eb, vR r_4, vI 2, vI ((1 : Int32) + (1 : Int32)), vR eb] []))
      rw [show ((1 : Int32) + (1 : Int32)) = (2 : Int32) from by decide]
      show Go p e below _ (T_23.setTop (mkF m 42 #[vR a1, vR eb, vR r_4, vI 2, vI 2, vR eb] []))
      refine Go.step (fun _ k => XS.goto X_23.here hx rfl (pc0 := 42) (pc' := 12) rfl (hb hby d_prog_6_method_6_code_42) (by decide) (by decide) k) ?_
      show Go p e below _ (T_23.setTop (mkF m 12 #[vR a1, vR eb, vR r_4, vI 2, vI 2, vR eb] []))
      refine Go.step (fun _ k => XS.iload X_23.here hx rfl (hb hby d_prog_6_method_6_code_12) rfl  k) ?_
      refine Go.step (fun _ k => XS.iloadN X_23.here hx rfl (hb hby d_prog_6_method_6_code_14) rfl  k) ?_
      show Go p e below _ (T_23.setTop (mkF m 15 #[vR a1, vR eb, vR r_4, vI 2, vI 2, vR eb] [(.int (2 : Int32)), (.int (2 : Int32))]))
      refine Go.step (fun _ k => XS.icmpYes X_23.here hx rfl (pc0 := 15) (pc' := 45) rfl (hb hby d_prog_6_method_6_code_15) rfl (flt ((by decide) : ¬ ((2 : Int32) < (2 : Int32)))).2.1 (by decide) (by decide) k) ?_
      show Go p e below _ (T_23.setTop (mkF m 45 #[vR a1, vR eb, vR r_4, vI 2, vI 2, vR eb] []))
      refine Go.step (fun _ k => XS.aloadN X_23.here hx rfl (hb hby d_prog_6_method_6_code_45) rfl rfl k) ?_
      show Go p e below _ (T_23.setTop (mkF m 46 #[vR a1, vR eb, vR r_4, vI 2, vI 2, vR eb] [(.ref eb)]))
      exact Go.retV X_23 hx hlk hret rfl (Or.inr (Or.inr (Or.inr (Or.inr ⟨rfl, rfl, rfl⟩)))) (hb hby d_prog_6_method_6_code_46) (by decide) (by decide) (by rw [e_23]; exact ⟨(absurd (y0.trans y1.symm) (by decide)), N_23, KP_4⟩)
    · skip
      refine Go.step (fun _ k => XS.ifYes X_23.here hx rfl (pc0 := 33) (pc' := 39) rfl (hb hby d_prog_6_method_6_code_33) rfl ((if0 _ _).trans (teq (b01_eq y1)).1) (by decide) (by decide) k) ?_
      show Go p e below _ (T_23.setTop (mkF m 39 #[vR a1, vR ea, vR r_4, vI 2, vI 1, vR eb] []))
      refine Go.step (fun _ k => XS.iinc X_23.here hx rfl (hb hby d_prog_6_method_6_code_39) rfl (l' := #[vR a1, vR ea, vR r_4, vI 2, vI ((1 : Int32) + (1 : Int32)), vR eb]) rfl k) ?_
      show Go p e below _ (T_23.setTop (mkF m 42 #[vR a1, vR ea, vR r_4, vI 2, vI ((1 : Int32) + (1 : Int32)), vR eb] []))
      rw [show ((1 : Int32) + (1 : Int32)) = (2 : Int32) from by decide]
      show Go p e below _ (T_23.setTop (mkF m 42 #[vR a1, vR ea, vR r_4, vI 2, vI 2, vR eb] []))
      refine Go.step (fun _ k => XS.goto X_23.here hx rfl (pc0 := 42) (pc' := 12) rfl (hb hby d_prog_6_method_6_code_42) (by decide) (by decide) k) ?_
      show Go p e below _ (T_23.setTop (mkF m 12 #[vR a1, vR ea, vR r_4, vI 2, vI 2, vR eb] []))
      refine Go.step (fun _ k => XS.iload X_23.here hx rfl (hb hby d_prog_6_method_6_code_12) rfl  k) ?_
      refine Go.step (fun _ k => XS.iloadN X_23.here hx rfl (hb hby d_prog_6_method_6_code_14) rfl  k) ?_
      show Go p e below _ (T_23.setTop (mkF m 15 #[vR a1, vR ea, vR r_4, vI 2, vI 2, vR eb] [(.int (2 : Int32)), (.int (2 : Int32))]))
      refine Go.step (fun _ k => XS.icmpYes X_23.here hx rfl (pc0 := 15) (pc' := 45) rfl (hb hby d_prog_6_method_6_code_15) rfl (flt ((by decide) : ¬ ((2 : Int32) < (2 : Int32)))).2.1 (by decide) (by decide) k) ?_
      show Go p e below _ (T_23.setTop (mkF m 45 #[vR a1, vR ea, vR r_4, vI 2, vI 2, vR eb] []))
      refine Go.step (fun _ k => XS.aloadN X_23.here hx rfl (hb hby d_prog_6_method_6_code_45) rfl rfl k) ?_
      show Go p e below _ (T_23.setTop (mkF m 46 #[vR a1, vR ea, vR r_4, vI 2, vI 2, vR eb] [(.ref ea)]))
      exact Go.retV X_23 hx hlk hret rfl (Or.inr (Or.inr (Or.inr (Or.inr ⟨rfl, rfl, rfl⟩)))) (hb hby d_prog_6_method_6_code_46) (by decide) (by decide) (by rw [e_23]; exact ⟨(by rw [fwv, if_pos y0.symm]), N_23, KP_4⟩)
  · skip
    refine Go.step (fun _ k => XS.ifYes X_15.here hx rfl (pc0 := 33) (pc' := 39) rfl (hb hby d_prog_6_method_6_code_33) rfl ((if0 _ _).trans (teq (b01_eq y0)).1) (by decide) (by decide) k) ?_
    show Go p e below _ (T_15.setTop (mkF m 39 #[vR a1, .val .null, vR r_4, vI 2, vI 0, vR ea] []))
    refine Go.step (fun _ k => XS.iinc X_15.here hx rfl (hb hby d_prog_6_method_6_code_39) rfl (l' := #[vR a1, .val .null, vR r_4, vI 2, vI ((0 : Int32) + (1 : Int32)), vR ea]) rfl k) ?_
    show Go p e below _ (T_15.setTop (mkF m 42 #[vR a1, .val .null, vR r_4, vI 2, vI ((0 : Int32) + (1 : Int32)), vR ea] []))
    rw [show ((0 : Int32) + (1 : Int32)) = (1 : Int32) from by decide]
    show Go p e below _ (T_15.setTop (mkF m 42 #[vR a1, .val .null, vR r_4, vI 2, vI 1, vR ea] []))
    refine Go.step (fun _ k => XS.goto X_15.here hx rfl (pc0 := 42) (pc' := 12) rfl (hb hby d_prog_6_method_6_code_42) (by decide) (by decide) k) ?_
    show Go p e below _ (T_15.setTop (mkF m 12 #[vR a1, .val .null, vR r_4, vI 2, vI 1, vR ea] []))
    refine Go.step (fun _ k => XS.iload X_15.here hx rfl (hb hby d_prog_6_method_6_code_12) rfl  k) ?_
    refine Go.step (fun _ k => XS.iloadN X_15.here hx rfl (hb hby d_prog_6_method_6_code_14) rfl  k) ?_
    show Go p e below _ (T_15.setTop (mkF m 15 #[vR a1, .val .null, vR r_4, vI 2, vI 1, vR ea] [(.int (2 : Int32)), (.int (1 : Int32))]))
    refine Go.step (fun _ k => XS.icmpNo X_15.here hx rfl (hb hby d_prog_6_method_6_code_15) rfl (tlt ((by decide) : (1 : Int32) < (2 : Int32))).2.1 k) ?_
    show Go p e below _ (T_15.setTop (mkF m 18 #[vR a1, .val .null, vR r_4, vI 2, vI 1, vR ea] []))
    refine Go.step (fun _ k => XS.aloadN X_15.here hx rfl (hb hby d_prog_6_method_6_code_18) rfl rfl k) ?_
    refine Go.step (fun _ k => XS.iload X_15.here hx rfl (hb hby d_prog_6_method_6_code_19) rfl  k) ?_
    show Go p e below _ (T_15.setTop (mkF m 21 #[vR a1, .val .null, vR r_4, vI 2, vI 1, vR ea] [(.int (1 : Int32)), (.ref r_4)]))
    have cp25 := u1_4
    obtain ⟨cl_24, Ar_24, -, Sz_24, -, Hs_24, -⟩ := cp25
    have hin_24 : ¬ ((1 : Int32) < 0 ∨ cl_24.slots.size ≤ ((1 : Int32)).toNatClampNeg) := (inb_of Sz_24 ⟨by decide, by decide⟩)
    have hat_24 : cl_24.slots[((1 : Int32)).toNatClampNeg]? = some (.ref eb) := (Hs_24.at (inb_of Sz_24 ⟨by decide, by decide⟩) rfl)
    refine Go.step (fun _ k => X_15.aaload hx (j := (1 : Int32)) (v := (.ref eb)) (by rw [e_15]; exact Ar_24.1) (State.isArrayOf_alike hZ.alike Ar_24.2.1) rfl Ar_24.2.2 hin_24 hat_24 (g := (mkF m 21 #[vR a1, .val .null, vR r_4, vI 2, vI 1, vR ea] [(.int (1 : Int32)), (.ref r_4)])) rfl rfl (hb hby d_prog_6_method_6_code_21) _ k) ?_
    show Go p e below _ (T_15.setTop (mkF m 22 #[vR a1, .val .null, vR r_4, vI 2, vI 1, vR ea] [(.ref eb)]))
    refine Go.step (fun _ k => XS.astore X_15.here hx rfl (hb hby d_prog_6_method_6_code_22) rfl rfl (l' := #[vR a1, .val .null, vR r_4, vI 2, vI 1, vR eb]) rfl k) ?_
    show Go p e below _ (T_15.setTop (mkF m 24 #[vR a1, .val .null, vR r_4, vI 2, vI 1, vR eb] []))
    refine Go.step (fun _ k => XS.aload X_15.here hx rfl (hb hby d_prog_6_method_6_code_24) rfl rfl k) ?_
    show Go p e below _ (T_15.setTop (mkF m 26 #[vR a1, .val .null, vR r_4, vI 2, vI 1, vR eb] [(.ref eb)]))
    obtain ⟨T_26, X_26, e_26, st_26⟩ := getF X_15 hx hZ hown (host := "") (Or.inl (wd_69 hw)) Via.refl e_15 (F_eb.ext O_4.2) (g := (mkF m 26 #[vR a1, .val .null, vR r_4, vI 2, vI 1, vR eb] [(.ref eb)])) rfl rfl (hb hby d_prog_6_method_6_code_26)
    refine Go.step st_26 ?_
    show Go p e below _ (T_26.setTop (mkF m 29 #[vR a1, .val .null, vR r_4, vI 2, vI 1, vR eb] [(.ref wb)]))
    refine Go.step (fun _ k => XS.aloadN X_26.here hx rfl (hb hby d_prog_6_method_6_code_29) rfl rfl k) ?_
    show Go p e below _ (T_26.setTop (mkF m 30 #[vR a1, .val .null, vR r_4, vI 2, vI 1, vR eb] [(.ref a1), (.ref wb)]))
    have cp27 := (S_wb.ext O_4.2)
    obtain ⟨t28, kb28, -, -, Ex28, Fv28, Fc28, Av28, hl28, hn28⟩ := cp27
    have cp29 := f12
    obtain ⟨t30, kb30, -, -, Ex30, Fv30, Fc30, Av30, hl30, hn30⟩ := cp29
    obtain ⟨v_31, T_31, L_31, X_31, hQ_31, st_31⟩ := goV X_26 hx hZ (y := Y_1) (z := Y_1) (kc := 0) (ks := 0) (QQ := fun v h' L => ((v = some (.int 1) ∧ ([(99 : Int32), (114 : Int32), (101 : Int32), (100 : Int32), (105 : Int32), (116 : Int32)] : List Int32) = cs) ∨ (v = some (.int 0) ∧ ¬ ([(99 : Int32), (114 : Int32), (101 : Int32), (100 : Int32), (105 : Int32), (116 : Int32)] : List Int32) = cs)) ∧ L = [] ∧ h' = T_4.heap) hown (wd_71 hw) (wd_38 hw) (notFace_of_selects (args := #[]) (mvT hZ (wd_40 hw))) (wd_40 hw) (wd_39 hw) (by decide) (StrChars.Road.eqW (W := 0) hZ (sw_wordsEq hw) (kI := 4) (wd_2 hw) Ex28 Fv28 Fc28 Av28 (StrChars.Road.codOf rfl (fun c hc => (hl28 c hc).2)) (up255 hl28) hn28 Ex30 Fv30 Fc30 Av30 (StrChars.Road.codOf rfl (fun c hc => (hl30 c hc).2)) (up255 hl30) hn30 (S_cs.ext O_4.2) n_cs (by decide) (by decide)) e_26 Ex28 (g := (mkF m 30 #[vR a1, .val .null, vR r_4, vI 2, vI 1, vR eb] [(.ref a1), (.ref wb)])) rfl (by rw [hml]; rfl) (argsL := [(.ref a1)]) (rest := []) rfl (lenOf pd_1 rfl) rfl (by show 2 * 0 + _ ≤ _; exact Nat.le_of_eq rfl) (hb hby d_prog_6_method_6_code_30) (by decide) (by decide)
    obtain ⟨hv_31, rfl, e_31⟩ := hQ_31
    obtain rfl := eqv_if hv_31
    have N_31 := Fr.app N_15 (Fr.nil n0)
    refine Go.step st_31 ?_
    show Go p e below _ (T_31.setTop (mkF m 33 #[vR a1, .val .null, vR r_4, vI 2, vI 1, vR eb] [(.int (if ([(99 : Int32), (114 : Int32), (101 : Int32), (100 : Int32), (105 : Int32), (116 : Int32)] : List Int32) = cs then (1 : Int32) else 0))]))
    by_cases y1 : ([(99 : Int32), (114 : Int32), (101 : Int32), (100 : Int32), (105 : Int32), (116 : Int32)] : List Int32) = cs
    · skip
      refine Go.step (fun _ k => XS.ifNo X_31.here hx rfl (hb hby d_prog_6_method_6_code_33) rfl ((if0 _ _).trans (feq (b01_ne y1)).1) k) ?_
      show Go p e below _ (T_31.setTop (mkF m 36 #[vR a1, .val .null, vR r_4, vI 2, vI 1, vR eb] []))
      refine Go.step (fun _ k => XS.aload X_31.here hx rfl (hb hby d_prog_6_method_6_code_36) rfl rfl k) ?_
      show Go p e below _ (T_31.setTop (mkF m 38 #[vR a1, .val .null, vR r_4, vI 2, vI 1, vR eb] [(.ref eb)]))
      refine Go.step (fun _ k => XS.astoreN X_31.here hx rfl (hb hby d_prog_6_method_6_code_38) rfl rfl (l' := #[vR a1, vR eb, vR r_4, vI 2, vI 1, vR eb]) rfl k) ?_
      show Go p e below _ (T_31.setTop (mkF m 39 #[vR a1, vR eb, vR r_4, vI 2, vI 1, vR eb] []))
      refine Go.step (fun _ k => XS.iinc X_31.here hx rfl (hb hby d_prog_6_method_6_code_39) rfl (l' := #[vR a1, vR eb, vR r_4, vI 2, vI ((1 : Int32) + (1 : Int32)), vR eb]) rfl k) ?_
      show Go p e below _ (T_31.setTop (mkF m 42 #[vR a1, vR eb, vR r_4, vI 2, vI ((1 : Int32) + (1 : Int32)), vR eb] []))
      rw [show ((1 : Int32) + (1 : Int32)) = (2 : Int32) from by decide]
      show Go p e below _ (T_31.setTop (mkF m 42 #[vR a1, vR eb, vR r_4, vI 2, vI 2, vR eb] []))
      refine Go.step (fun _ k => XS.goto X_31.here hx rfl (pc0 := 42) (pc' := 12) rfl (hb hby d_prog_6_method_6_code_42) (by decide) (by decide) k) ?_
      show Go p e below _ (T_31.setTop (mkF m 12 #[vR a1, vR eb, vR r_4, vI 2, vI 2, vR eb] []))
      refine Go.step (fun _ k => XS.iload X_31.here hx rfl (hb hby d_prog_6_method_6_code_12) rfl  k) ?_
      refine Go.step (fun _ k => XS.iloadN X_31.here hx rfl (hb hby d_prog_6_method_6_code_14) rfl  k) ?_
      show Go p e below _ (T_31.setTop (mkF m 15 #[vR a1, vR eb, vR r_4, vI 2, vI 2, vR eb] [(.int (2 : Int32)), (.int (2 : Int32))]))
      refine Go.step (fun _ k => XS.icmpYes X_31.here hx rfl (pc0 := 15) (pc' := 45) rfl (hb hby d_prog_6_method_6_code_15) rfl (flt ((by decide) : ¬ ((2 : Int32) < (2 : Int32)))).2.1 (by decide) (by decide) k) ?_
      show Go p e below _ (T_31.setTop (mkF m 45 #[vR a1, vR eb, vR r_4, vI 2, vI 2, vR eb] []))
      refine Go.step (fun _ k => XS.aloadN X_31.here hx rfl (hb hby d_prog_6_method_6_code_45) rfl rfl k) ?_
      show Go p e below _ (T_31.setTop (mkF m 46 #[vR a1, vR eb, vR r_4, vI 2, vI 2, vR eb] [(.ref eb)]))
      exact Go.retV X_31 hx hlk hret rfl (Or.inr (Or.inr (Or.inr (Or.inr ⟨rfl, rfl, rfl⟩)))) (hb hby d_prog_6_method_6_code_46) (by decide) (by decide) (by rw [e_31]; exact ⟨(by rw [fwv, if_neg (fun q => y0 q.symm), if_pos y1.symm]), N_31, KP_4⟩)
    · skip
      refine Go.step (fun _ k => XS.ifYes X_31.here hx rfl (pc0 := 33) (pc' := 39) rfl (hb hby d_prog_6_method_6_code_33) rfl ((if0 _ _).trans (teq (b01_eq y1)).1) (by decide) (by decide) k) ?_
      show Go p e below _ (T_31.setTop (mkF m 39 #[vR a1, .val .null, vR r_4, vI 2, vI 1, vR eb] []))
      refine Go.step (fun _ k => XS.iinc X_31.here hx rfl (hb hby d_prog_6_method_6_code_39) rfl (l' := #[vR a1, .val .null, vR r_4, vI 2, vI ((1 : Int32) + (1 : Int32)), vR eb]) rfl k) ?_
      show Go p e below _ (T_31.setTop (mkF m 42 #[vR a1, .val .null, vR r_4, vI 2, vI ((1 : Int32) + (1 : Int32)), vR eb] []))
      rw [show ((1 : Int32) + (1 : Int32)) = (2 : Int32) from by decide]
      show Go p e below _ (T_31.setTop (mkF m 42 #[vR a1, .val .null, vR r_4, vI 2, vI 2, vR eb] []))
      refine Go.step (fun _ k => XS.goto X_31.here hx rfl (pc0 := 42) (pc' := 12) rfl (hb hby d_prog_6_method_6_code_42) (by decide) (by decide) k) ?_
      show Go p e below _ (T_31.setTop (mkF m 12 #[vR a1, .val .null, vR r_4, vI 2, vI 2, vR eb] []))
      refine Go.step (fun _ k => XS.iload X_31.here hx rfl (hb hby d_prog_6_method_6_code_12) rfl  k) ?_
      refine Go.step (fun _ k => XS.iloadN X_31.here hx rfl (hb hby d_prog_6_method_6_code_14) rfl  k) ?_
      show Go p e below _ (T_31.setTop (mkF m 15 #[vR a1, .val .null, vR r_4, vI 2, vI 2, vR eb] [(.int (2 : Int32)), (.int (2 : Int32))]))
      refine Go.step (fun _ k => XS.icmpYes X_31.here hx rfl (pc0 := 15) (pc' := 45) rfl (hb hby d_prog_6_method_6_code_15) rfl (flt ((by decide) : ¬ ((2 : Int32) < (2 : Int32)))).2.1 (by decide) (by decide) k) ?_
      show Go p e below _ (T_31.setTop (mkF m 45 #[vR a1, .val .null, vR r_4, vI 2, vI 2, vR eb] []))
      refine Go.step (fun _ k => XS.aloadN X_31.here hx rfl (hb hby d_prog_6_method_6_code_45) rfl rfl k) ?_
      show Go p e below _ (T_31.setTop (mkF m 46 #[vR a1, .val .null, vR r_4, vI 2, vI 2, vR eb] [.null]))
      exact Go.retV X_31 hx hlk hret rfl (Or.inr (Or.inr (Or.inr (Or.inr ⟨rfl, rfl, rfl⟩)))) (hb hby d_prog_6_method_6_code_46) (by decide) (by decide) (by rw [e_31]; exact ⟨(by rw [fwv, if_neg (fun q => y0 q.symm), if_neg (fun q => y1 q.symm)]), N_31, KP_4⟩)
--@E
--@C eqNull
def Q_eqNull (Z : State) (zc : Int32) (va : Addr) (kv : ClassId) (ea : Addr) (eb : Addr) (wa : Addr) (wb : Addr) (a1 : Addr) (h0 : Heap) (n0 : Nat) (v : Option Value) (h : Heap) (L : List Loc) : Prop := v = some (.int (0 : Int32)) ∧ Fr n0 L ∧ h = h0
set_option maxRecDepth 65536 in
set_option maxHeartbeats 40000000 in
theorem rm_eqNull (l : Launch) (Z : State) (a0 : Array Value) (hw : ∀ d ∈ tables_1, d.before a0 Z = true) (zc : Int32) (va : Addr) (kv : ClassId) (ea : Addr) (eb : Addr) (wa : Addr) (wb : Addr) (a1 : Addr) (h0 : Heap) (n0 : Nat) (Z0 : n0 ≤ h0.size) (hSt : St Z zc va kv ea eb wa wb) (hO : Old Z n0 h0) :
    CN l Z ({ cls := "java/lang/String", name := "equals", desc := "(Ljava/lang/Object;)Z" } : Jvm.MethodName) [(Jvm.Cond.code ({ cls := "java/lang/String", name := "equals", desc := "(Ljava/lang/Object;)Z" } : Jvm.MethodName) jdk_42_method_66_code (3 : Nat) (Option.some Jvm.ClassFile.FieldType.boolean))] ({ frames := 0, cells := 0, slots := 0, locals := 0 } : Room) #[(.ref a1), .null] h0 (Q_eqNull Z zc va kv ea eb wa wb a1 h0 n0) := by
  refine CN.of (L0 := #[vR a1, .val .null, vU]) (plainFor_of_name pn_1) (fun m => by first | (simp [entryFrame, mkF, argsToLocals, Value.category]; done) | rfl) ?_
  intro p e s m below meth c s₁ hx hby hml hret hlk hZ hown hnm X0 e0
  have N0 := Fr.nil n0
  have KP0 := Keep.refl h0 []
  have hSt_ := hSt
  obtain ⟨S_cs, n_cs, S_va, E_va, A_va, S_ea, F_ea, S_wa, S_eb, F_eb, S_wb⟩ := hSt_
  show Go p e below _ (s₁.setTop (mkF m 0 #[vR a1, .val .null, vU] []))
  refine Go.step (fun _ k => XS.aloadN X0.here hx rfl (hb hby d_jdk_42_method_66_code_0) rfl rfl k) ?_
  refine Go.step (fun _ k => XS.aloadN X0.here hx rfl (hb hby d_jdk_42_method_66_code_1) rfl rfl k) ?_
  show Go p e below _ (s₁.setTop (mkF m 2 #[vR a1, .val .null, vU] [.null, (.ref a1)]))
  refine Go.step (fun _ k => Jvm.RoadKit.acmp (g := (mkF m 2 #[vR a1, .val .null, vU] [.null, (.ref a1)])) X0 hx rfl rfl rfl (pc0 := 2) (pc' := 7) (same := false) rfl (hb hby d_jdk_42_method_66_code_2) rfl (decide_eq_false nofun) (by decide) (by decide) k) ?_
  show Go p e below _ (s₁.setTop (mkF m 7 #[vR a1, .val .null, vU] []))
  refine Go.step (fun _ k => XS.aloadN X0.here hx rfl (hb hby d_jdk_42_method_66_code_7) rfl rfl k) ?_
  show Go p e below _ (s₁.setTop (mkF m 8 #[vR a1, .val .null, vU] [.null]))
  refine Go.step (fun _ k => X0.instanceofNull hx (g := (mkF m 8 #[vR a1, .val .null, vU] [.null])) rfl rfl (hb hby d_jdk_42_method_66_code_8) _ k) ?_
  show Go p e below _ (s₁.setTop (mkF m 11 #[vR a1, .val .null, vU] [(.int (0 : Int32))]))
  refine Go.step (fun _ k => XS.ifYes X0.here hx rfl (pc0 := 11) (pc' := 54) rfl (hb hby d_jdk_42_method_66_code_11) rfl ((if0 _ _).trans (teq ((by decide) : (0 : Int32) = (0 : Int32))).1) (by decide) (by decide) k) ?_
  show Go p e below _ (s₁.setTop (mkF m 54 #[vR a1, .val .null, vU] []))
  refine Go.step (fun _ k => XS.iconst X0.here hx rfl (hb hby d_jdk_42_method_66_code_54) k) ?_
  show Go p e below _ (s₁.setTop (mkF m 55 #[vR a1, .val .null, vU] [(.int (0 : Int32))]))
  exact Go.retV X0 hx hlk hret rfl (Or.inl ⟨rfl, Or.inr (Or.inl rfl), _, rfl⟩) (hb hby d_jdk_42_method_66_code_55) (by decide) (by decide) (by rw [e0]; exact ⟨rfl, N0, rfl⟩)
--@E
--@C fwN
def Q_fwN (Z : State) (zc : Int32) (va : Addr) (kv : ClassId) (ea : Addr) (eb : Addr) (wa : Addr) (wb : Addr) (h0 : Heap) (n0 : Nat) (v : Option Value) (h : Heap) (L : List Loc) : Prop := v = some .null ∧ Fr n0 L ∧ Keep h0 h []
set_option maxRecDepth 65536 in
set_option maxHeartbeats 40000000 in
theorem rm_fwN (l : Launch) (Z : State) (a0 : Array Value) (hw : ∀ d ∈ tables_1, d.before a0 Z = true) (zc : Int32) (va : Addr) (kv : ClassId) (ea : Addr) (eb : Addr) (wa : Addr) (wb : Addr) (h0 : Heap) (n0 : Nat) (Z0 : n0 ≤ h0.size) (hSt : St Z zc va kv ea eb wa wb) (hO : Old Z n0 h0) :
    CN l Z ({ cls := "com/example/patient_ledger/patientledger/EntryType", name := "fromWireName", desc := "(Ljava/lang/String;)Lcom/example/patient_ledger/patientledger/EntryType;" } : Jvm.MethodName) [(Jvm.Cond.code ({ cls := "com/example/patient_ledger/patientledger/EntryType", name := "fromWireName", desc := "(Ljava/lang/String;)Lcom/example/patient_ledger/patientledger/EntryType;" } : Jvm.MethodName) prog_6_method_6_code (6 : Nat) (Option.some (Jvm.ClassFile.FieldType.object "com/example/patient_ledger/patientledger/EntryType")))] ({ frames := 2, cells := 1, slots := 2, locals := 25 } : Room) #[.null] h0 (Q_fwN Z zc va kv ea eb wa wb h0 n0) := by
  refine CN.of (L0 := #[.val .null, vU, vU, vU, vU, vU]) (plainFor_of_name pn_0) (fun m => by first | (simp [entryFrame, mkF, argsToLocals, Value.category]; done) | rfl) ?_
  intro p e s m below meth c s₁ hx hby hml hret hlk hZ hown hnm X0 e0
  have N0 := Fr.nil n0
  have KP0 := Keep.refl h0 []
  have hSt_ := hSt
  obtain ⟨S_cs, n_cs, S_va, E_va, A_va, S_ea, F_ea, S_wa, S_eb, F_eb, S_wb⟩ := hSt_
  show Go p e below _ (s₁.setTop (mkF m 0 #[.val .null, vU, vU, vU, vU, vU] []))
  refine Go.step (fun _ k => XS.aconstNull X0.here hx rfl (hb hby d_prog_6_method_6_code_0) k) ?_
  show Go p e below _ (s₁.setTop (mkF m 1 #[.val .null, vU, vU, vU, vU, vU] [.null]))
  refine Go.step (fun _ k => XS.astoreN X0.here hx rfl (hb hby d_prog_6_method_6_code_1) rfl rfl (l' := #[.val .null, .val .null, vU, vU, vU, vU]) rfl k) ?_
  show Go p e below _ (s₁.setTop (mkF m 2 #[.val .null, .val .null, vU, vU, vU, vU] []))
  obtain ⟨v_32, T_32, L_32, X_32, hQ_32, st_32⟩ := goS X0 hx hZ (y := Y_0) hown (wd_53 hw) (wd_54 hw) (wd_48 hw) (wd_55 hw) (by decide) (backOf (W := 0) (rm_values l Z a0 hw zc va kv ea eb wa wb h0 n0 (Nat.le_trans Z0 KP0.1) hSt hO) hZ (wd_55 hw) (wd_48 hw) (by decide) (by decide)) e0 (g := (mkF m 2 #[.val .null, .val .null, vU, vU, vU, vU] [])) rfl (by rw [hml]; rfl) (argsL := []) (rest := []) rfl (lenOf pd_0 rfl) rfl (by show 2 * 0 + _ ≤ _; exact Nat.le_of_eq rfl) (hb hby d_prog_6_method_6_code_2) (by decide) (by decide)
  obtain ⟨r_32, rfl, Nq_32, K_32, u0_32, u1_32⟩ := hQ_32
  have N_32 := Fr.app N0 Nq_32
  have le_32 : h0.size ≤ T_32.heap.size := K_32.1
  have KP_32 := KP0.trans K_32 all0
  have O_32 := hO.keep K_32 all0
  have sz_r_32 : h0.size ≤ r_32 := Nat.le_trans (Nat.le_refl _) u0_32
  have g_r_32 : n0 ≤ r_32 := Nat.le_trans Z0 sz_r_32
  refine Go.step st_32 ?_
  show Go p e below _ (T_32.setTop (mkF m 5 #[.val .null, .val .null, vU, vU, vU, vU] [(.ref r_32)]))
  refine Go.step (fun _ k => XS.astoreN X_32.here hx rfl (hb hby d_prog_6_method_6_code_5) rfl rfl (l' := #[.val .null, .val .null, vR r_32, vU, vU, vU]) rfl k) ?_
  show Go p e below _ (T_32.setTop (mkF m 6 #[.val .null, .val .null, vR r_32, vU, vU, vU] []))
  refine Go.step (fun _ k => XS.aloadN X_32.here hx rfl (hb hby d_prog_6_method_6_code_6) rfl rfl k) ?_
  show Go p e below _ (T_32.setTop (mkF m 7 #[.val .null, .val .null, vR r_32, vU, vU, vU] [(.ref r_32)]))
  have cp34 := u1_32
  obtain ⟨cl_33, Ar_33, -, Sz_33, Ng_33, -, -⟩ := cp34
  refine Go.step (fun _ k => X_32.arraylength hx (by exact Ar_33.1) (State.isArrayOf_alike hZ.alike Ar_33.2.1) (g := (mkF m 7 #[.val .null, .val .null, vR r_32, vU, vU, vU] [(.ref r_32)])) rfl rfl (hb hby d_prog_6_method_6_code_7) _ k) ?_
  rw [len_of Sz_33 Ng_33]
  show Go p e below _ (T_32.setTop (mkF m 8 #[.val .null, .val .null, vR r_32, vU, vU, vU] [(.int (2 : Int32))]))
  refine Go.step (fun _ k => XS.istoreN X_32.here hx rfl (hb hby d_prog_6_method_6_code_8) rfl (l' := #[.val .null, .val .null, vR r_32, vI 2, vU, vU]) rfl k) ?_
  show Go p e below _ (T_32.setTop (mkF m 9 #[.val .null, .val .null, vR r_32, vI 2, vU, vU] []))
  refine Go.step (fun _ k => XS.iconst X_32.here hx rfl (hb hby d_prog_6_method_6_code_9) k) ?_
  show Go p e below _ (T_32.setTop (mkF m 10 #[.val .null, .val .null, vR r_32, vI 2, vU, vU] [(.int (0 : Int32))]))
  refine Go.step (fun _ k => XS.istore X_32.here hx rfl (hb hby d_prog_6_method_6_code_10) rfl (l' := #[.val .null, .val .null, vR r_32, vI 2, vI 0, vU]) rfl k) ?_
  show Go p e below _ (T_32.setTop (mkF m 12 #[.val .null, .val .null, vR r_32, vI 2, vI 0, vU] []))
  refine Go.step (fun _ k => XS.iload X_32.here hx rfl (hb hby d_prog_6_method_6_code_12) rfl  k) ?_
  refine Go.step (fun _ k => XS.iloadN X_32.here hx rfl (hb hby d_prog_6_method_6_code_14) rfl  k) ?_
  show Go p e below _ (T_32.setTop (mkF m 15 #[.val .null, .val .null, vR r_32, vI 2, vI 0, vU] [(.int (2 : Int32)), (.int (0 : Int32))]))
  refine Go.step (fun _ k => XS.icmpNo X_32.here hx rfl (hb hby d_prog_6_method_6_code_15) rfl (tlt ((by decide) : (0 : Int32) < (2 : Int32))).2.1 k) ?_
  show Go p e below _ (T_32.setTop (mkF m 18 #[.val .null, .val .null, vR r_32, vI 2, vI 0, vU] []))
  refine Go.step (fun _ k => XS.aloadN X_32.here hx rfl (hb hby d_prog_6_method_6_code_18) rfl rfl k) ?_
  refine Go.step (fun _ k => XS.iload X_32.here hx rfl (hb hby d_prog_6_method_6_code_19) rfl  k) ?_
  show Go p e below _ (T_32.setTop (mkF m 21 #[.val .null, .val .null, vR r_32, vI 2, vI 0, vU] [(.int (0 : Int32)), (.ref r_32)]))
  have cp36 := u1_32
  obtain ⟨cl_35, Ar_35, -, Sz_35, -, Hs_35, -⟩ := cp36
  have hin_35 : ¬ ((0 : Int32) < 0 ∨ cl_35.slots.size ≤ ((0 : Int32)).toNatClampNeg) := (inb_of Sz_35 ⟨by decide, by decide⟩)
  have hat_35 : cl_35.slots[((0 : Int32)).toNatClampNeg]? = some (.ref ea) := (Hs_35.at (inb_of Sz_35 ⟨by decide, by decide⟩) rfl)
  refine Go.step (fun _ k => X_32.aaload hx (j := (0 : Int32)) (v := (.ref ea)) (by exact Ar_35.1) (State.isArrayOf_alike hZ.alike Ar_35.2.1) rfl Ar_35.2.2 hin_35 hat_35 (g := (mkF m 21 #[.val .null, .val .null, vR r_32, vI 2, vI 0, vU] [(.int (0 : Int32)), (.ref r_32)])) rfl rfl (hb hby d_prog_6_method_6_code_21) _ k) ?_
  show Go p e below _ (T_32.setTop (mkF m 22 #[.val .null, .val .null, vR r_32, vI 2, vI 0, vU] [(.ref ea)]))
  refine Go.step (fun _ k => XS.astore X_32.here hx rfl (hb hby d_prog_6_method_6_code_22) rfl rfl (l' := #[.val .null, .val .null, vR r_32, vI 2, vI 0, vR ea]) rfl k) ?_
  show Go p e below _ (T_32.setTop (mkF m 24 #[.val .null, .val .null, vR r_32, vI 2, vI 0, vR ea] []))
  refine Go.step (fun _ k => XS.aload X_32.here hx rfl (hb hby d_prog_6_method_6_code_24) rfl rfl k) ?_
  show Go p e below _ (T_32.setTop (mkF m 26 #[.val .null, .val .null, vR r_32, vI 2, vI 0, vR ea] [(.ref ea)]))
  obtain ⟨T_37, X_37, e_37, st_37⟩ := getF X_32 hx hZ hown (host := "") (Or.inl (wd_69 hw)) Via.refl rfl (F_ea.ext O_32.2) (g := (mkF m 26 #[.val .null, .val .null, vR r_32, vI 2, vI 0, vR ea] [(.ref ea)])) rfl rfl (hb hby d_prog_6_method_6_code_26)
  refine Go.step st_37 ?_
  show Go p e below _ (T_37.setTop (mkF m 29 #[.val .null, .val .null, vR r_32, vI 2, vI 0, vR ea] [(.ref wa)]))
  refine Go.step (fun _ k => XS.aloadN X_37.here hx rfl (hb hby d_prog_6_method_6_code_29) rfl rfl k) ?_
  show Go p e below _ (T_37.setTop (mkF m 30 #[.val .null, .val .null, vR r_32, vI 2, vI 0, vR ea] [.null, (.ref wa)]))
  obtain ⟨v_38, T_38, L_38, X_38, hQ_38, st_38⟩ := goV X_37 hx hZ (y := Y_1) (z := Y_1) hown (wd_71 hw) (wd_38 hw) (notFace_of_selects (args := #[]) (mvT hZ (wd_40 hw))) (wd_40 hw) (wd_39 hw) (by decide) (backOf (W := 0) (rm_eqNull l Z a0 hw zc va kv ea eb wa wb (wa) T_32.heap n0 (Nat.le_trans Z0 KP_32.1) hSt O_32) hZ (wd_41 hw) (wd_3 hw) (by decide) (by decide)) e_37 (S_wa.ext O_32.2).exa (g := (mkF m 30 #[.val .null, .val .null, vR r_32, vI 2, vI 0, vR ea] [.null, (.ref wa)])) rfl (by rw [hml]; rfl) (argsL := [.null]) (rest := []) rfl (lenOf pd_1 rfl) rfl (by show 2 * 0 + _ ≤ _; exact Nat.le_of_eq rfl) (hb hby d_prog_6_method_6_code_30) (by decide) (by decide)
  obtain ⟨rfl, Nq_38, e_38⟩ := hQ_38
  have N_38 := Fr.app N_32 Nq_38
  refine Go.step st_38 ?_
  show Go p e below _ (T_38.setTop (mkF m 33 #[.val .null, .val .null, vR r_32, vI 2, vI 0, vR ea] [(.int (0 : Int32))]))
  refine Go.step (fun _ k => XS.ifYes X_38.here hx rfl (pc0 := 33) (pc' := 39) rfl (hb hby d_prog_6_method_6_code_33) rfl ((if0 _ _).trans (teq ((by decide) : (0 : Int32) = (0 : Int32))).1) (by decide) (by decide) k) ?_
  show Go p e below _ (T_38.setTop (mkF m 39 #[.val .null, .val .null, vR r_32, vI 2, vI 0, vR ea] []))
  refine Go.step (fun _ k => XS.iinc X_38.here hx rfl (hb hby d_prog_6_method_6_code_39) rfl (l' := #[.val .null, .val .null, vR r_32, vI 2, vI ((0 : Int32) + (1 : Int32)), vR ea]) rfl k) ?_
  show Go p e below _ (T_38.setTop (mkF m 42 #[.val .null, .val .null, vR r_32, vI 2, vI ((0 : Int32) + (1 : Int32)), vR ea] []))
  rw [show ((0 : Int32) + (1 : Int32)) = (1 : Int32) from by decide]
  show Go p e below _ (T_38.setTop (mkF m 42 #[.val .null, .val .null, vR r_32, vI 2, vI 1, vR ea] []))
  refine Go.step (fun _ k => XS.goto X_38.here hx rfl (pc0 := 42) (pc' := 12) rfl (hb hby d_prog_6_method_6_code_42) (by decide) (by decide) k) ?_
  show Go p e below _ (T_38.setTop (mkF m 12 #[.val .null, .val .null, vR r_32, vI 2, vI 1, vR ea] []))
  refine Go.step (fun _ k => XS.iload X_38.here hx rfl (hb hby d_prog_6_method_6_code_12) rfl  k) ?_
  refine Go.step (fun _ k => XS.iloadN X_38.here hx rfl (hb hby d_prog_6_method_6_code_14) rfl  k) ?_
  show Go p e below _ (T_38.setTop (mkF m 15 #[.val .null, .val .null, vR r_32, vI 2, vI 1, vR ea] [(.int (2 : Int32)), (.int (1 : Int32))]))
  refine Go.step (fun _ k => XS.icmpNo X_38.here hx rfl (hb hby d_prog_6_method_6_code_15) rfl (tlt ((by decide) : (1 : Int32) < (2 : Int32))).2.1 k) ?_
  show Go p e below _ (T_38.setTop (mkF m 18 #[.val .null, .val .null, vR r_32, vI 2, vI 1, vR ea] []))
  refine Go.step (fun _ k => XS.aloadN X_38.here hx rfl (hb hby d_prog_6_method_6_code_18) rfl rfl k) ?_
  refine Go.step (fun _ k => XS.iload X_38.here hx rfl (hb hby d_prog_6_method_6_code_19) rfl  k) ?_
  show Go p e below _ (T_38.setTop (mkF m 21 #[.val .null, .val .null, vR r_32, vI 2, vI 1, vR ea] [(.int (1 : Int32)), (.ref r_32)]))
  have cp40 := u1_32
  obtain ⟨cl_39, Ar_39, -, Sz_39, -, Hs_39, -⟩ := cp40
  have hin_39 : ¬ ((1 : Int32) < 0 ∨ cl_39.slots.size ≤ ((1 : Int32)).toNatClampNeg) := (inb_of Sz_39 ⟨by decide, by decide⟩)
  have hat_39 : cl_39.slots[((1 : Int32)).toNatClampNeg]? = some (.ref eb) := (Hs_39.at (inb_of Sz_39 ⟨by decide, by decide⟩) rfl)
  refine Go.step (fun _ k => X_38.aaload hx (j := (1 : Int32)) (v := (.ref eb)) (by rw [e_38]; exact Ar_39.1) (State.isArrayOf_alike hZ.alike Ar_39.2.1) rfl Ar_39.2.2 hin_39 hat_39 (g := (mkF m 21 #[.val .null, .val .null, vR r_32, vI 2, vI 1, vR ea] [(.int (1 : Int32)), (.ref r_32)])) rfl rfl (hb hby d_prog_6_method_6_code_21) _ k) ?_
  show Go p e below _ (T_38.setTop (mkF m 22 #[.val .null, .val .null, vR r_32, vI 2, vI 1, vR ea] [(.ref eb)]))
  refine Go.step (fun _ k => XS.astore X_38.here hx rfl (hb hby d_prog_6_method_6_code_22) rfl rfl (l' := #[.val .null, .val .null, vR r_32, vI 2, vI 1, vR eb]) rfl k) ?_
  show Go p e below _ (T_38.setTop (mkF m 24 #[.val .null, .val .null, vR r_32, vI 2, vI 1, vR eb] []))
  refine Go.step (fun _ k => XS.aload X_38.here hx rfl (hb hby d_prog_6_method_6_code_24) rfl rfl k) ?_
  show Go p e below _ (T_38.setTop (mkF m 26 #[.val .null, .val .null, vR r_32, vI 2, vI 1, vR eb] [(.ref eb)]))
  obtain ⟨T_41, X_41, e_41, st_41⟩ := getF X_38 hx hZ hown (host := "") (Or.inl (wd_69 hw)) Via.refl e_38 (F_eb.ext O_32.2) (g := (mkF m 26 #[.val .null, .val .null, vR r_32, vI 2, vI 1, vR eb] [(.ref eb)])) rfl rfl (hb hby d_prog_6_method_6_code_26)
  refine Go.step st_41 ?_
  show Go p e below _ (T_41.setTop (mkF m 29 #[.val .null, .val .null, vR r_32, vI 2, vI 1, vR eb] [(.ref wb)]))
  refine Go.step (fun _ k => XS.aloadN X_41.here hx rfl (hb hby d_prog_6_method_6_code_29) rfl rfl k) ?_
  show Go p e below _ (T_41.setTop (mkF m 30 #[.val .null, .val .null, vR r_32, vI 2, vI 1, vR eb] [.null, (.ref wb)]))
  obtain ⟨v_42, T_42, L_42, X_42, hQ_42, st_42⟩ := goV X_41 hx hZ (y := Y_1) (z := Y_1) hown (wd_71 hw) (wd_38 hw) (notFace_of_selects (args := #[]) (mvT hZ (wd_40 hw))) (wd_40 hw) (wd_39 hw) (by decide) (backOf (W := 0) (rm_eqNull l Z a0 hw zc va kv ea eb wa wb (wb) T_32.heap n0 (Nat.le_trans Z0 KP_32.1) hSt O_32) hZ (wd_41 hw) (wd_3 hw) (by decide) (by decide)) e_41 (S_wb.ext O_32.2).exa (g := (mkF m 30 #[.val .null, .val .null, vR r_32, vI 2, vI 1, vR eb] [.null, (.ref wb)])) rfl (by rw [hml]; rfl) (argsL := [.null]) (rest := []) rfl (lenOf pd_1 rfl) rfl (by show 2 * 0 + _ ≤ _; exact Nat.le_of_eq rfl) (hb hby d_prog_6_method_6_code_30) (by decide) (by decide)
  obtain ⟨rfl, Nq_42, e_42⟩ := hQ_42
  have N_42 := Fr.app N_38 Nq_42
  refine Go.step st_42 ?_
  show Go p e below _ (T_42.setTop (mkF m 33 #[.val .null, .val .null, vR r_32, vI 2, vI 1, vR eb] [(.int (0 : Int32))]))
  refine Go.step (fun _ k => XS.ifYes X_42.here hx rfl (pc0 := 33) (pc' := 39) rfl (hb hby d_prog_6_method_6_code_33) rfl ((if0 _ _).trans (teq ((by decide) : (0 : Int32) = (0 : Int32))).1) (by decide) (by decide) k) ?_
  show Go p e below _ (T_42.setTop (mkF m 39 #[.val .null, .val .null, vR r_32, vI 2, vI 1, vR eb] []))
  refine Go.step (fun _ k => XS.iinc X_42.here hx rfl (hb hby d_prog_6_method_6_code_39) rfl (l' := #[.val .null, .val .null, vR r_32, vI 2, vI ((1 : Int32) + (1 : Int32)), vR eb]) rfl k) ?_
  show Go p e below _ (T_42.setTop (mkF m 42 #[.val .null, .val .null, vR r_32, vI 2, vI ((1 : Int32) + (1 : Int32)), vR eb] []))
  rw [show ((1 : Int32) + (1 : Int32)) = (2 : Int32) from by decide]
  show Go p e below _ (T_42.setTop (mkF m 42 #[.val .null, .val .null, vR r_32, vI 2, vI 2, vR eb] []))
  refine Go.step (fun _ k => XS.goto X_42.here hx rfl (pc0 := 42) (pc' := 12) rfl (hb hby d_prog_6_method_6_code_42) (by decide) (by decide) k) ?_
  show Go p e below _ (T_42.setTop (mkF m 12 #[.val .null, .val .null, vR r_32, vI 2, vI 2, vR eb] []))
  refine Go.step (fun _ k => XS.iload X_42.here hx rfl (hb hby d_prog_6_method_6_code_12) rfl  k) ?_
  refine Go.step (fun _ k => XS.iloadN X_42.here hx rfl (hb hby d_prog_6_method_6_code_14) rfl  k) ?_
  show Go p e below _ (T_42.setTop (mkF m 15 #[.val .null, .val .null, vR r_32, vI 2, vI 2, vR eb] [(.int (2 : Int32)), (.int (2 : Int32))]))
  refine Go.step (fun _ k => XS.icmpYes X_42.here hx rfl (pc0 := 15) (pc' := 45) rfl (hb hby d_prog_6_method_6_code_15) rfl (flt ((by decide) : ¬ ((2 : Int32) < (2 : Int32)))).2.1 (by decide) (by decide) k) ?_
  show Go p e below _ (T_42.setTop (mkF m 45 #[.val .null, .val .null, vR r_32, vI 2, vI 2, vR eb] []))
  refine Go.step (fun _ k => XS.aloadN X_42.here hx rfl (hb hby d_prog_6_method_6_code_45) rfl rfl k) ?_
  show Go p e below _ (T_42.setTop (mkF m 46 #[.val .null, .val .null, vR r_32, vI 2, vI 2, vR eb] [.null]))
  exact Go.retV X_42 hx hlk hret rfl (Or.inr (Or.inr (Or.inr (Or.inr ⟨rfl, rfl, rfl⟩)))) (hb hby d_prog_6_method_6_code_46) (by decide) (by decide) (by rw [e_42]; exact ⟨rfl, N_42, KP_32⟩)
--@E
theorem latL (x : Int64) : ¬ (x &&& (255 : Int64)).toInt32 < 0 ∧ ¬ (255 : Int32) < (x &&& (255 : Int64)).toInt32 := by
  have h := c_maskL x 255 8 (by decide) (by decide)
  have r := c_l2i (x &&& (255 : Int64))
  have s := rng32 (x &&& (255 : Int64)).toInt32
  have e1 : (255 : Int32).toInt = 255 := by decide
  have e2 : (0 : Int32).toInt = 0 := by decide
  rw [Int32.lt_iff_toInt_lt, Int32.lt_iff_toInt_lt]
  omega
theorem narL (x : Int64) : nar .char (x &&& (255 : Int64)).toInt32 = (x &&& (255 : Int64)).toInt32 := nar_lat (latL x)
theorem list8 {vs : List Int32} (h : vs.length = 8) : ∃ c0 c1 c2 c3 c4 c5 c6 c7, vs = [c0, c1, c2, c3, c4, c5, c6, c7] := by
  match vs, h with
  | [c0, c1, c2, c3, c4, c5, c6, c7], _ => exact ⟨c0, c1, c2, c3, c4, c5, c6, c7, rfl⟩
theorem set_lat {vs : List Int32} {i : Nat} {v : Int32} (h : ∀ c ∈ vs, ¬ c < 0 ∧ ¬ (255 : Int32) < c) (hv : ¬ v < 0 ∧ ¬ (255 : Int32) < v) : ∀ c ∈ vs.set i v, ¬ c < 0 ∧ ¬ (255 : Int32) < c := fun c hc => by
  rcases List.mem_or_eq_of_mem_set hc with q | rfl
  · exact h c q
  · exact hv
theorem range4 (x : Int32) : (x &&& (3 : Int32)) = 0 ∨ (x &&& (3 : Int32)) = 1 ∨ (x &&& (3 : Int32)) = 2 ∨ (x &&& (3 : Int32)) = 3 := by
  have h := c_mask x 3 2 (by decide) (by decide)
  have q : (x &&& (3 : Int32)).toInt = 0 ∨ (x &&& (3 : Int32)).toInt = 1 ∨ (x &&& (3 : Int32)).toInt = 2 ∨ (x &&& (3 : Int32)).toInt = 3 := by omega
  rcases q with q | q | q | q
  · exact Or.inl (Int32.toInt_inj.mp q)
  · exact Or.inr (Or.inl (Int32.toInt_inj.mp q))
  · exact Or.inr (Or.inr (Or.inl (Int32.toInt_inj.mp q)))
  · exact Or.inr (Or.inr (Or.inr (Int32.toInt_inj.mp q)))
theorem range9 {z : Int32} (hz : 0 ≤ z.toInt ∧ z.toInt ≤ 8) : z = 0 ∨ z = 1 ∨ z = 2 ∨ z = 3 ∨ z = 4 ∨ z = 5 ∨ z = 6 ∨ z = 7 ∨ z = 8 := by
  have e : ∀ k : Int32, z.toInt = k.toInt → z = k := fun k q => Int32.toInt_inj.mp q
  have q : z.toInt = 0 ∨ z.toInt = 1 ∨ z.toInt = 2 ∨ z.toInt = 3 ∨ z.toInt = 4 ∨ z.toInt = 5 ∨ z.toInt = 6 ∨ z.toInt = 7 ∨ z.toInt = 8 := by omega
  rcases q with q | q | q | q | q | q | q | q | q
  · exact Or.inl (e 0 q)
  · exact Or.inr (Or.inl (e 1 q))
  · exact Or.inr (Or.inr (Or.inl (e 2 q)))
  · exact Or.inr (Or.inr (Or.inr (Or.inl (e 3 q))))
  · exact Or.inr (Or.inr (Or.inr (Or.inr (Or.inl (e 4 q)))))
  · exact Or.inr (Or.inr (Or.inr (Or.inr (Or.inr (Or.inl (e 5 q))))))
  · exact Or.inr (Or.inr (Or.inr (Or.inr (Or.inr (Or.inr (Or.inl (e 6 q)))))))
  · exact Or.inr (Or.inr (Or.inr (Or.inr (Or.inr (Or.inr (Or.inr (Or.inl (e 7 q))))))))
  · exact Or.inr (Or.inr (Or.inr (Or.inr (Or.inr (Or.inr (Or.inr (Or.inr (e 8 q))))))))
theorem and7 (x : Int32) : 0 ≤ (x &&& (7 : Int32)).toInt ∧ (x &&& (7 : Int32)).toInt ≤ 7 := by
  have h := c_mask x 7 3 (by decide) (by decide)
  omega
/-- the remainder by n1 -/
theorem remN (x : Int32) {n : Int32} (hn : 0 ≤ n.toInt ∧ n.toInt ≤ 7) (h0 : (0 : Int32) < n) : 0 ≤ ((x &&& (2147483647 : Int32)) % n).toInt ∧ ((x &&& (2147483647 : Int32)) % n).toInt < n.toInt := by
  have h := c_mask x 2147483647 31 (by decide) (by decide)
  rw [Int32.lt_iff_toInt_lt] at h0
  have e0 : (0 : Int32).toInt = 0 := by decide
  have r := (c_irem (x &&& (2147483647 : Int32)) n n.toInt rfl).1 (by omega)
  have m1 := Int.emod_nonneg (x &&& (2147483647 : Int32)).toInt (b := n.toInt) (by omega)
  have m2 := Int.emod_lt_of_pos (x &&& (2147483647 : Int32)).toInt (b := n.toInt) (by omega)
  omega
theorem gt0_ne {n : Int32} (h : (0 : Int32) < n) : n ≠ 0 := fun q => by subst q; exact absurd h (by decide)
theorem in8 {i : Int32} (h : 0 ≤ i.toInt ∧ i.toInt < 8) : i.toNatClampNeg < 8 := by simp only [Int32.toNatClampNeg]; omega
theorem inb8 {i : Int32} (h : 0 ≤ i.toInt ∧ i.toInt < 8) : ¬ i < 0 ∧ i < (8 : Int32) := by
  rw [Int32.lt_iff_toInt_lt, Int32.lt_iff_toInt_lt]
  have e0 : (0 : Int32).toInt = 0 := by decide
  have e8 : (8 : Int32).toInt = 8 := by decide
  omega
theorem n_sub {n : Int32} (hn : 0 ≤ n.toInt ∧ n.toInt ≤ 7) (h : (0 : Int32) < n) : 0 ≤ (n - (1 : Int32)).toInt ∧ (n - (1 : Int32)).toInt ≤ 8 := by
  have a := c_isub n 1
  have b := rng32 (n - 1)
  have e1 : (1 : Int32).toInt = 1 := by decide
  have e0 : (0 : Int32).toInt = 0 := by decide
  rw [Int32.lt_iff_toInt_lt] at h
  rw [e1] at a
  omega
theorem n_add {n : Int32} (hn : 0 ≤ n.toInt ∧ n.toInt ≤ 7) : 0 ≤ (n + (1 : Int32)).toInt ∧ (n + (1 : Int32)).toInt ≤ 8 := by
  have a := c_iadd n 1
  have b := rng32 (n + 1)
  have e1 : (1 : Int32).toInt = 1 := by decide
  rw [e1] at a
  omega

--@C ch
def Q_ch (Z : State) (zc : Int32) (va : Addr) (kv : ClassId) (ea : Addr) (eb : Addr) (wa : Addr) (wb : Addr) (p1 : Int64) (p2 : Int32) (h0 : Heap) (n0 : Nat) (v : Option Value) (h : Heap) (L : List Loc) : Prop := ∃ (v1 : Int32), v = some (.int v1) ∧ Fr n0 L ∧ h = h0 ∧ (¬ v1 < 0 ∧ ¬ (255 : Int32) < v1)
set_option maxRecDepth 65536 in
set_option maxHeartbeats 40000000 in
theorem rm_ch (l : Launch) (Z : State) (a0 : Array Value) (hw : ∀ d ∈ tables_1, d.before a0 Z = true) (zc : Int32) (va : Addr) (kv : ClassId) (ea : Addr) (eb : Addr) (wa : Addr) (wb : Addr) (p1 : Int64) (p2 : Int32) (h0 : Heap) (n0 : Nat) (Z0 : n0 ≤ h0.size) (hSt : St Z zc va kv ea eb wa wb) (hO : Old Z n0 h0) :
    CN l Z ({ cls := "com/example/patient_ledger/patientledger/EntryTypeFromWireNamePinLaw", name := "ch", desc := "(JI)C" } : Jvm.MethodName) [(Jvm.Cond.code ({ cls := "com/example/patient_ledger/patientledger/EntryTypeFromWireNamePinLaw", name := "ch", desc := "(JI)C" } : Jvm.MethodName) method_2_code (3 : Nat) (Option.some Jvm.ClassFile.FieldType.char))] ({ frames := 0, cells := 0, slots := 0, locals := 0 } : Room) #[(.long p1), (.int p2)] h0 (Q_ch Z zc va kv ea eb wa wb p1 p2 h0 n0) := by
  refine CN.of (L0 := #[vJ p1, .second, vI p2]) (plainFor_of_name pn_2) (fun m => by first | (simp [entryFrame, mkF, argsToLocals, Value.category]; done) | rfl) ?_
  intro p e s m below meth c s₁ hx hby hml hret hlk hZ hown hnm X0 e0
  have N0 := Fr.nil n0
  have KP0 := Keep.refl h0 []
  have hSt_ := hSt
  obtain ⟨S_cs, n_cs, S_va, E_va, A_va, S_ea, F_ea, S_wa, S_eb, F_eb, S_wb⟩ := hSt_
  show Go p e below _ (s₁.setTop (mkF m 0 #[vJ p1, .second, vI p2] []))
  refine Go.step (fun _ k => XS.lloadN X0.here hx rfl (hb hby d_method_2_code_0) rfl  k) ?_
  refine Go.step (fun _ k => XS.bipush X0.here hx rfl (hb hby d_method_2_code_1) k) ?_
  refine Go.step (fun _ k => XS.iloadN X0.here hx rfl (hb hby d_method_2_code_3) rfl  k) ?_
  show Go p e below _ (s₁.setTop (mkF m 4 #[vJ p1, .second, vI p2] [(.int p2), (.int (8 : Int32)), (.long p1)]))
  refine Go.step (fun _ k => XS.imul X0.here hx rfl (hb hby d_method_2_code_4) rfl k) ?_
  show Go p e below _ (s₁.setTop (mkF m 5 #[vJ p1, .second, vI p2] [(.int ((8 : Int32) * p2)), (.long p1)]))
  refine Go.step (fun _ k => XS.lushr X0.here hx rfl (hb hby d_method_2_code_5) rfl k) ?_
  show Go p e below _ (s₁.setTop (mkF m 6 #[vJ p1, .second, vI p2] [(.long ((p1.toUInt64 >>> (((8 : Int32) * p2) &&& 0x3f).toInt64.toUInt64).toInt64))]))
  refine Go.step (fun _ k => X0.ldc2Long hx hown (mvT hZ (wd_75 hw)) (g := (mkF m 6 #[vJ p1, .second, vI p2] [(.long ((p1.toUInt64 >>> (((8 : Int32) * p2) &&& 0x3f).toInt64.toUInt64).toInt64))])) rfl (hb hby d_method_2_code_6) _ k) ?_
  show Go p e below _ (s₁.setTop (mkF m 9 #[vJ p1, .second, vI p2] [(.long (255 : Int64)), (.long ((p1.toUInt64 >>> (((8 : Int32) * p2) &&& 0x3f).toInt64.toUInt64).toInt64))]))
  refine Go.step (fun _ k => XS.land X0.here hx rfl (hb hby d_method_2_code_9) rfl k) ?_
  show Go p e below _ (s₁.setTop (mkF m 10 #[vJ p1, .second, vI p2] [(.long (((p1.toUInt64 >>> (((8 : Int32) * p2) &&& 0x3f).toInt64.toUInt64).toInt64) &&& (255 : Int64)))]))
  refine Go.step (fun _ k => XS.l2i X0.here hx rfl (hb hby d_method_2_code_10) rfl k) ?_
  show Go p e below _ (s₁.setTop (mkF m 11 #[vJ p1, .second, vI p2] [(.int (((p1.toUInt64 >>> (((8 : Int32) * p2) &&& 0x3f).toInt64.toUInt64).toInt64) &&& (255 : Int64)).toInt32)]))
  refine Go.step (fun _ k => XS.i2c X0.here hx rfl (hb hby d_method_2_code_11) rfl k) ?_
  show Go p e below _ (s₁.setTop (mkF m 12 #[vJ p1, .second, vI p2] [(.int (nar .char (((p1.toUInt64 >>> (((8 : Int32) * p2) &&& 0x3f).toInt64.toUInt64).toInt64) &&& (255 : Int64)).toInt32))]))
  refine own_top (congrArg Value.int (show (nar .char (((p1.toUInt64 >>> (((8 : Int32) * p2) &&& 0x3f).toInt64.toUInt64).toInt64) &&& (255 : Int64)).toInt32) = (((p1.toUInt64 >>> (((8 : Int32) * p2) &&& 0x3f).toInt64.toUInt64).toInt64) &&& (255 : Int64)).toInt32 from narL _)) ?_
  show Go p e below _ (s₁.setTop (mkF m 12 #[vJ p1, .second, vI p2] [(.int (((p1.toUInt64 >>> (((8 : Int32) * p2) &&& 0x3f).toInt64.toUInt64).toInt64) &&& (255 : Int64)).toInt32)]))
  exact Go.retV X0 hx hlk hret (congrArg Value.int (narL _)) (Or.inl ⟨rfl, Or.inr (Or.inr (Or.inr (Or.inl rfl))), _, rfl⟩) (hb hby d_method_2_code_12) (by decide) (by decide) (by rw [e0]; exact ⟨(((p1.toUInt64 >>> (((8 : Int32) * p2) &&& 0x3f).toInt64.toUInt64).toInt64) &&& (255 : Int64)).toInt32, rfl, N0, rfl, (latL _)⟩)
--@E
--@C copy0
def Q_copy0 (Z : State) (zc : Int32) (va : Addr) (kv : ClassId) (ea : Addr) (eb : Addr) (wa : Addr) (wb : Addr) (a1 : Addr) (k1 : ClassId) (c0 : Int32) (c1 : Int32) (c2 : Int32) (c3 : Int32) (c4 : Int32) (c5 : Int32) (c6 : Int32) (c7 : Int32) (h0 : Heap) (n0 : Nat) (v : Option Value) (h : Heap) (L : List Loc) : Prop := ∃ (r : Addr) (kr : ClassId), v = some (.ref r) ∧ Fr n0 L ∧ Keep h0 h [] ∧ h0.size ≤ r ∧ Arv Z h r kr .char (0 : Int32) [] (.int (0 : Int32))
set_option maxRecDepth 65536 in
set_option maxHeartbeats 40000000 in
theorem rm_copy0 (l : Launch) (Z : State) (a0 : Array Value) (hw : ∀ d ∈ tables_1, d.before a0 Z = true) (zc : Int32) (va : Addr) (kv : ClassId) (ea : Addr) (eb : Addr) (wa : Addr) (wb : Addr) (a1 : Addr) (k1 : ClassId) (c0 : Int32) (c1 : Int32) (c2 : Int32) (c3 : Int32) (c4 : Int32) (c5 : Int32) (c6 : Int32) (c7 : Int32) (h0 : Heap) (n0 : Nat) (Z0 : n0 ≤ h0.size) (A_a1 : Arv Z h0 a1 k1 .char (8 : Int32) [(.int c0), (.int c1), (.int c2), (.int c3), (.int c4), (.int c5), (.int c6), (.int c7)] (.int (0 : Int32))) (l_c0 : (¬ c0 < 0 ∧ ¬ (255 : Int32) < c0)) (l_c1 : (¬ c1 < 0 ∧ ¬ (255 : Int32) < c1)) (l_c2 : (¬ c2 < 0 ∧ ¬ (255 : Int32) < c2)) (l_c3 : (¬ c3 < 0 ∧ ¬ (255 : Int32) < c3)) (l_c4 : (¬ c4 < 0 ∧ ¬ (255 : Int32) < c4)) (l_c5 : (¬ c5 < 0 ∧ ¬ (255 : Int32) < c5)) (l_c6 : (¬ c6 < 0 ∧ ¬ (255 : Int32) < c6)) (l_c7 : (¬ c7 < 0 ∧ ¬ (255 : Int32) < c7)) (hSt : St Z zc va kv ea eb wa wb) (hO : Old Z n0 h0) :
    CN l Z ({ cls := "com/example/patient_ledger/patientledger/EntryTypeFromWireNamePinLaw", name := "copy", desc := "([CI)[C" } : Jvm.MethodName) [(Jvm.Cond.code ({ cls := "com/example/patient_ledger/patientledger/EntryTypeFromWireNamePinLaw", name := "copy", desc := "([CI)[C" } : Jvm.MethodName) method_3_code (3 : Nat) (Option.some (Jvm.ClassFile.FieldType.array Jvm.ClassFile.FieldType.char)))] ({ frames := 0, cells := 1, slots := 0, locals := 0 } : Room) #[(.ref a1), (.int (0 : Int32))] h0 (Q_copy0 Z zc va kv ea eb wa wb a1 k1 c0 c1 c2 c3 c4 c5 c6 c7 h0 n0) := by
  refine CN.of (L0 := #[vR a1, vI 0, vU]) (plainFor_of_name pn_2) (fun m => by first | (simp [entryFrame, mkF, argsToLocals, Value.category]; done) | rfl) ?_
  intro p e s m below meth c s₁ hx hby hml hret hlk hZ hown hnm X0 e0
  have N0 := Fr.nil n0
  have KP0 := Keep.refl h0 []
  have hSt_ := hSt
  obtain ⟨S_cs, n_cs, S_va, E_va, A_va, S_ea, F_ea, S_wa, S_eb, F_eb, S_wb⟩ := hSt_
  show Go p e below _ (s₁.setTop (mkF m 0 #[vR a1, vI 0, vU] []))
  refine Go.step (fun _ k => XS.iloadN X0.here hx rfl (hb hby d_method_3_code_0) rfl  k) ?_
  show Go p e below _ (s₁.setTop (mkF m 1 #[vR a1, vI 0, vU] [(.int (0 : Int32))]))
  obtain ⟨T_43, h_43, k_43, X_43, e_43, E_43, A_43, st_43⟩ := newP X0 hx hZ (aty := .char) (wd_0 hw) e0 (g := (mkF m 1 #[vR a1, vI 0, vU] [(.int (0 : Int32))])) rfl (hb hby d_method_3_code_1) rfl (by decide) (cap := 0) (by decide) (by decide) (by decide) (by decide)
  obtain ⟨b43, q_43⟩ : ∃ z, z = h0.size := ⟨_, rfl⟩
  rw [← q_43] at A_43 st_43
  refine Go.step st_43 ?_
  have le_43 : h0.size ≤ h_43.size := E_43.1
  have KP_43 := KP0.ext E_43
  have O_43 := hO.ext E_43
  have ge_43 : h0.size ≤ b43 := Nat.le_of_eq q_43.symm
  have sz_b43 : h0.size ≤ b43 := Nat.le_trans (Nat.le_refl _) ge_43
  have g_b43 : n0 ≤ b43 := Nat.le_trans Z0 sz_b43
  have V_43 : Arv Z h_43 b43 k_43 .char (0 : Int32) [] (.int (0 : Int32)) := Arv.new A_43 (by decide)
  show Go p e below _ (T_43.setTop (mkF m 3 #[vR a1, vI 0, vU] [(.ref b43)]))
  refine Go.step (fun _ k => XS.astoreN X_43.here hx rfl (hb hby d_method_3_code_3) rfl rfl (l' := #[vR a1, vI 0, vR b43]) rfl k) ?_
  show Go p e below _ (T_43.setTop (mkF m 4 #[vR a1, vI 0, vR b43] []))
  refine Go.step (fun _ k => XS.iloadN X_43.here hx rfl (hb hby d_method_3_code_4) rfl  k) ?_
  show Go p e below _ (T_43.setTop (mkF m 5 #[vR a1, vI 0, vR b43] [(.int (0 : Int32))]))
  refine Go.step (fun _ k => XS.ifYes X_43.here hx rfl (pc0 := 5) (pc' := 14) rfl (hb hby d_method_3_code_5) rfl ((if0 _ _).trans (flt ((by decide) : ¬ ((0 : Int32) < (0 : Int32)))).2.2.2) (by decide) (by decide) k) ?_
  show Go p e below _ (T_43.setTop (mkF m 14 #[vR a1, vI 0, vR b43] []))
  refine Go.step (fun _ k => XS.iloadN X_43.here hx rfl (hb hby d_method_3_code_14) rfl  k) ?_
  refine Go.step (fun _ k => XS.iconst X_43.here hx rfl (hb hby d_method_3_code_15) k) ?_
  show Go p e below _ (T_43.setTop (mkF m 16 #[vR a1, vI 0, vR b43] [(.int (1 : Int32)), (.int (0 : Int32))]))
  refine Go.step (fun _ k => XS.icmpYes X_43.here hx rfl (pc0 := 16) (pc' := 25) rfl (hb hby d_method_3_code_16) rfl (flt ((by decide) : ¬ ((1 : Int32) < (0 : Int32)))).2.2.2 (by decide) (by decide) k) ?_
  show Go p e below _ (T_43.setTop (mkF m 25 #[vR a1, vI 0, vR b43] []))
  refine Go.step (fun _ k => XS.iloadN X_43.here hx rfl (hb hby d_method_3_code_25) rfl  k) ?_
  refine Go.step (fun _ k => XS.iconst X_43.here hx rfl (hb hby d_method_3_code_26) k) ?_
  show Go p e below _ (T_43.setTop (mkF m 27 #[vR a1, vI 0, vR b43] [(.int (2 : Int32)), (.int (0 : Int32))]))
  refine Go.step (fun _ k => XS.icmpYes X_43.here hx rfl (pc0 := 27) (pc' := 36) rfl (hb hby d_method_3_code_27) rfl (flt ((by decide) : ¬ ((2 : Int32) < (0 : Int32)))).2.2.2 (by decide) (by decide) k) ?_
  show Go p e below _ (T_43.setTop (mkF m 36 #[vR a1, vI 0, vR b43] []))
  refine Go.step (fun _ k => XS.iloadN X_43.here hx rfl (hb hby d_method_3_code_36) rfl  k) ?_
  refine Go.step (fun _ k => XS.iconst X_43.here hx rfl (hb hby d_method_3_code_37) k) ?_
  show Go p e below _ (T_43.setTop (mkF m 38 #[vR a1, vI 0, vR b43] [(.int (3 : Int32)), (.int (0 : Int32))]))
  refine Go.step (fun _ k => XS.icmpYes X_43.here hx rfl (pc0 := 38) (pc' := 47) rfl (hb hby d_method_3_code_38) rfl (flt ((by decide) : ¬ ((3 : Int32) < (0 : Int32)))).2.2.2 (by decide) (by decide) k) ?_
  show Go p e below _ (T_43.setTop (mkF m 47 #[vR a1, vI 0, vR b43] []))
  refine Go.step (fun _ k => XS.iloadN X_43.here hx rfl (hb hby d_method_3_code_47) rfl  k) ?_
  refine Go.step (fun _ k => XS.iconst X_43.here hx rfl (hb hby d_method_3_code_48) k) ?_
  show Go p e below _ (T_43.setTop (mkF m 49 #[vR a1, vI 0, vR b43] [(.int (4 : Int32)), (.int (0 : Int32))]))
  refine Go.step (fun _ k => XS.icmpYes X_43.here hx rfl (pc0 := 49) (pc' := 58) rfl (hb hby d_method_3_code_49) rfl (flt ((by decide) : ¬ ((4 : Int32) < (0 : Int32)))).2.2.2 (by decide) (by decide) k) ?_
  show Go p e below _ (T_43.setTop (mkF m 58 #[vR a1, vI 0, vR b43] []))
  refine Go.step (fun _ k => XS.iloadN X_43.here hx rfl (hb hby d_method_3_code_58) rfl  k) ?_
  refine Go.step (fun _ k => XS.iconst X_43.here hx rfl (hb hby d_method_3_code_59) k) ?_
  show Go p e below _ (T_43.setTop (mkF m 60 #[vR a1, vI 0, vR b43] [(.int (5 : Int32)), (.int (0 : Int32))]))
  refine Go.step (fun _ k => XS.icmpYes X_43.here hx rfl (pc0 := 60) (pc' := 69) rfl (hb hby d_method_3_code_60) rfl (flt ((by decide) : ¬ ((5 : Int32) < (0 : Int32)))).2.2.2 (by decide) (by decide) k) ?_
  show Go p e below _ (T_43.setTop (mkF m 69 #[vR a1, vI 0, vR b43] []))
  refine Go.step (fun _ k => XS.iloadN X_43.here hx rfl (hb hby d_method_3_code_69) rfl  k) ?_
  refine Go.step (fun _ k => XS.bipush X_43.here hx rfl (hb hby d_method_3_code_70) k) ?_
  show Go p e below _ (T_43.setTop (mkF m 72 #[vR a1, vI 0, vR b43] [(.int (6 : Int32)), (.int (0 : Int32))]))
  refine Go.step (fun _ k => XS.icmpYes X_43.here hx rfl (pc0 := 72) (pc' := 83) rfl (hb hby d_method_3_code_72) rfl (flt ((by decide) : ¬ ((6 : Int32) < (0 : Int32)))).2.2.2 (by decide) (by decide) k) ?_
  show Go p e below _ (T_43.setTop (mkF m 83 #[vR a1, vI 0, vR b43] []))
  refine Go.step (fun _ k => XS.iloadN X_43.here hx rfl (hb hby d_method_3_code_83) rfl  k) ?_
  refine Go.step (fun _ k => XS.bipush X_43.here hx rfl (hb hby d_method_3_code_84) k) ?_
  show Go p e below _ (T_43.setTop (mkF m 86 #[vR a1, vI 0, vR b43] [(.int (7 : Int32)), (.int (0 : Int32))]))
  refine Go.step (fun _ k => XS.icmpYes X_43.here hx rfl (pc0 := 86) (pc' := 97) rfl (hb hby d_method_3_code_86) rfl (flt ((by decide) : ¬ ((7 : Int32) < (0 : Int32)))).2.2.2 (by decide) (by decide) k) ?_
  show Go p e below _ (T_43.setTop (mkF m 97 #[vR a1, vI 0, vR b43] []))
  refine Go.step (fun _ k => XS.aloadN X_43.here hx rfl (hb hby d_method_3_code_97) rfl rfl k) ?_
  show Go p e below _ (T_43.setTop (mkF m 98 #[vR a1, vI 0, vR b43] [(.ref b43)]))
  exact Go.retV X_43 hx hlk hret rfl (Or.inr (Or.inr (Or.inr (Or.inr ⟨rfl, rfl, rfl⟩)))) (hb hby d_method_3_code_98) (by decide) (by decide) (by rw [e_43]; exact ⟨b43, k_43, rfl, N0, KP_43, sz_b43, V_43⟩)
--@E
--@C copy1
def Q_copy1 (Z : State) (zc : Int32) (va : Addr) (kv : ClassId) (ea : Addr) (eb : Addr) (wa : Addr) (wb : Addr) (a1 : Addr) (k1 : ClassId) (c0 : Int32) (c1 : Int32) (c2 : Int32) (c3 : Int32) (c4 : Int32) (c5 : Int32) (c6 : Int32) (c7 : Int32) (h0 : Heap) (n0 : Nat) (v : Option Value) (h : Heap) (L : List Loc) : Prop := ∃ (r : Addr) (kr : ClassId), v = some (.ref r) ∧ Fr n0 L ∧ Keep h0 h [] ∧ h0.size ≤ r ∧ Arv Z h r kr .char (1 : Int32) [(.int c0)] (.int (0 : Int32))
set_option maxRecDepth 65536 in
set_option maxHeartbeats 40000000 in
theorem rm_copy1 (l : Launch) (Z : State) (a0 : Array Value) (hw : ∀ d ∈ tables_1, d.before a0 Z = true) (zc : Int32) (va : Addr) (kv : ClassId) (ea : Addr) (eb : Addr) (wa : Addr) (wb : Addr) (a1 : Addr) (k1 : ClassId) (c0 : Int32) (c1 : Int32) (c2 : Int32) (c3 : Int32) (c4 : Int32) (c5 : Int32) (c6 : Int32) (c7 : Int32) (h0 : Heap) (n0 : Nat) (Z0 : n0 ≤ h0.size) (A_a1 : Arv Z h0 a1 k1 .char (8 : Int32) [(.int c0), (.int c1), (.int c2), (.int c3), (.int c4), (.int c5), (.int c6), (.int c7)] (.int (0 : Int32))) (l_c0 : (¬ c0 < 0 ∧ ¬ (255 : Int32) < c0)) (l_c1 : (¬ c1 < 0 ∧ ¬ (255 : Int32) < c1)) (l_c2 : (¬ c2 < 0 ∧ ¬ (255 : Int32) < c2)) (l_c3 : (¬ c3 < 0 ∧ ¬ (255 : Int32) < c3)) (l_c4 : (¬ c4 < 0 ∧ ¬ (255 : Int32) < c4)) (l_c5 : (¬ c5 < 0 ∧ ¬ (255 : Int32) < c5)) (l_c6 : (¬ c6 < 0 ∧ ¬ (255 : Int32) < c6)) (l_c7 : (¬ c7 < 0 ∧ ¬ (255 : Int32) < c7)) (hSt : St Z zc va kv ea eb wa wb) (hO : Old Z n0 h0) :
    CN l Z ({ cls := "com/example/patient_ledger/patientledger/EntryTypeFromWireNamePinLaw", name := "copy", desc := "([CI)[C" } : Jvm.MethodName) [(Jvm.Cond.code ({ cls := "com/example/patient_ledger/patientledger/EntryTypeFromWireNamePinLaw", name := "copy", desc := "([CI)[C" } : Jvm.MethodName) method_3_code (3 : Nat) (Option.some (Jvm.ClassFile.FieldType.array Jvm.ClassFile.FieldType.char)))] ({ frames := 0, cells := 1, slots := 1, locals := 0 } : Room) #[(.ref a1), (.int (1 : Int32))] h0 (Q_copy1 Z zc va kv ea eb wa wb a1 k1 c0 c1 c2 c3 c4 c5 c6 c7 h0 n0) := by
  refine CN.of (L0 := #[vR a1, vI 1, vU]) (plainFor_of_name pn_2) (fun m => by first | (simp [entryFrame, mkF, argsToLocals, Value.category]; done) | rfl) ?_
  intro p e s m below meth c s₁ hx hby hml hret hlk hZ hown hnm X0 e0
  have N0 := Fr.nil n0
  have KP0 := Keep.refl h0 []
  have hSt_ := hSt
  obtain ⟨S_cs, n_cs, S_va, E_va, A_va, S_ea, F_ea, S_wa, S_eb, F_eb, S_wb⟩ := hSt_
  show Go p e below _ (s₁.setTop (mkF m 0 #[vR a1, vI 1, vU] []))
  refine Go.step (fun _ k => XS.iloadN X0.here hx rfl (hb hby d_method_3_code_0) rfl  k) ?_
  show Go p e below _ (s₁.setTop (mkF m 1 #[vR a1, vI 1, vU] [(.int (1 : Int32))]))
  obtain ⟨T_44, h_44, k_44, X_44, e_44, E_44, A_44, st_44⟩ := newP X0 hx hZ (aty := .char) (wd_0 hw) e0 (g := (mkF m 1 #[vR a1, vI 1, vU] [(.int (1 : Int32))])) rfl (hb hby d_method_3_code_1) rfl (by decide) (cap := 1) (by decide) (by decide) (by decide) (by decide)
  obtain ⟨b44, q_44⟩ : ∃ z, z = h0.size := ⟨_, rfl⟩
  rw [← q_44] at A_44 st_44
  refine Go.step st_44 ?_
  have le_44 : h0.size ≤ h_44.size := E_44.1
  have KP_44 := KP0.ext E_44
  have O_44 := hO.ext E_44
  have ge_44 : h0.size ≤ b44 := Nat.le_of_eq q_44.symm
  have sz_b44 : h0.size ≤ b44 := Nat.le_trans (Nat.le_refl _) ge_44
  have g_b44 : n0 ≤ b44 := Nat.le_trans Z0 sz_b44
  have V_44 : Arv Z h_44 b44 k_44 .char (1 : Int32) [(.int (0 : Int32))] (.int (0 : Int32)) := (Arv.new A_44 (by decide)).pad (pad_rep [] (.int (0 : Int32)) 1)
  show Go p e below _ (T_44.setTop (mkF m 3 #[vR a1, vI 1, vU] [(.ref b44)]))
  refine Go.step (fun _ k => XS.astoreN X_44.here hx rfl (hb hby d_method_3_code_3) rfl rfl (l' := #[vR a1, vI 1, vR b44]) rfl k) ?_
  show Go p e below _ (T_44.setTop (mkF m 4 #[vR a1, vI 1, vR b44] []))
  refine Go.step (fun _ k => XS.iloadN X_44.here hx rfl (hb hby d_method_3_code_4) rfl  k) ?_
  show Go p e below _ (T_44.setTop (mkF m 5 #[vR a1, vI 1, vR b44] [(.int (1 : Int32))]))
  refine Go.step (fun _ k => XS.ifNo X_44.here hx rfl (hb hby d_method_3_code_5) rfl ((if0 _ _).trans (tlt ((by decide) : (0 : Int32) < (1 : Int32))).2.2.2) k) ?_
  show Go p e below _ (T_44.setTop (mkF m 8 #[vR a1, vI 1, vR b44] []))
  refine Go.step (fun _ k => XS.aloadN X_44.here hx rfl (hb hby d_method_3_code_8) rfl rfl k) ?_
  refine Go.step (fun _ k => XS.iconst X_44.here hx rfl (hb hby d_method_3_code_9) k) ?_
  refine Go.step (fun _ k => XS.aloadN X_44.here hx rfl (hb hby d_method_3_code_10) rfl rfl k) ?_
  refine Go.step (fun _ k => XS.iconst X_44.here hx rfl (hb hby d_method_3_code_11) k) ?_
  show Go p e below _ (T_44.setTop (mkF m 12 #[vR a1, vI 1, vR b44] [(.int (0 : Int32)), (.ref a1), (.int (0 : Int32)), (.ref b44)]))
  have f46 : Arv Z h_44 a1 k1 .char (8 : Int32) [(.int c0), (.int c1), (.int c2), (.int c3), (.int c4), (.int c5), (.int c6), (.int c7)] (.int (0 : Int32)) := (A_a1.ext E_44)
  have cp47 := f46
  obtain ⟨cl_45, Ar_45, -, Sz_45, -, Hs_45, -⟩ := cp47
  have hin_45 : ¬ ((0 : Int32) < 0 ∨ cl_45.slots.size ≤ ((0 : Int32)).toNatClampNeg) := (inb_of Sz_45 ⟨by decide, by decide⟩)
  have hat_45 : cl_45.slots[((0 : Int32)).toNatClampNeg]? = some (.int c0) := (Hs_45.at (inb_of Sz_45 ⟨by decide, by decide⟩) rfl)
  refine Go.step (fun _ k => X_44.caload hx (j := (0 : Int32)) (v := (.int c0)) (by rw [e_44]; exact Ar_45.1) (State.isArrayOf_alike hZ.alike Ar_45.2.1) Ar_45.2.2 hin_45 hat_45 (g := (mkF m 12 #[vR a1, vI 1, vR b44] [(.int (0 : Int32)), (.ref a1), (.int (0 : Int32)), (.ref b44)])) rfl rfl (hb hby d_method_3_code_12) _ k) ?_
  show Go p e below _ (T_44.setTop (mkF m 13 #[vR a1, vI 1, vR b44] [(.int c0), (.int (0 : Int32)), (.ref b44)]))
  have cp49 := V_44
  obtain ⟨cl_48, Ar_48, ck_48, Sz_48, Ng_48, Hs_48, Gs_48⟩ := cp49
  have hin_48 : ¬ ((0 : Int32) < 0 ∨ cl_48.slots.size ≤ ((0 : Int32)).toNatClampNeg) := inb_of Sz_48 ⟨by decide, by decide⟩
  obtain ⟨T_48, h_48, X_48, e_48, W_48, st_48⟩ := stC X_44 hx hZ e_44 Ar_48 (j := (0 : Int32)) hin_48 (g := (mkF m 13 #[vR a1, vI 1, vR b44] [(.int c0), (.int (0 : Int32)), (.ref b44)])) rfl rfl (hb hby d_method_3_code_13)
  refine Go.step st_48 ?_
  have N_48 := Fr.snoc X_48 N0 g_b44
  have le_48 : h_44.size ≤ h_48.size := Nat.le_of_eq W_48.size.symm
  have KP_48 := KP_44.wr W_48 (Or.inr sz_b44)
  have O_48 := O_44.wr W_48 g_b44
  have V_48 : Arv Z h_48 b44 k_44 .char (1 : Int32) [(.int c0)] (.int (0 : Int32)) := by
    have q := Arv.set Ar_48 ck_48 Sz_48 Ng_48 Hs_48 Gs_48 (fits_nar_char _) W_48 0 rfl (Nat.le_of_ble_eq_true rfl)
    rw [nar_lat l_c0] at q; exact q
  show Go p e below _ (T_48.setTop (mkF m 14 #[vR a1, vI 1, vR b44] []))
  refine Go.step (fun _ k => XS.iloadN X_48.here hx rfl (hb hby d_method_3_code_14) rfl  k) ?_
  refine Go.step (fun _ k => XS.iconst X_48.here hx rfl (hb hby d_method_3_code_15) k) ?_
  show Go p e below _ (T_48.setTop (mkF m 16 #[vR a1, vI 1, vR b44] [(.int (1 : Int32)), (.int (1 : Int32))]))
  refine Go.step (fun _ k => XS.icmpYes X_48.here hx rfl (pc0 := 16) (pc' := 25) rfl (hb hby d_method_3_code_16) rfl (flt ((by decide) : ¬ ((1 : Int32) < (1 : Int32)))).2.2.2 (by decide) (by decide) k) ?_
  show Go p e below _ (T_48.setTop (mkF m 25 #[vR a1, vI 1, vR b44] []))
  refine Go.step (fun _ k => XS.iloadN X_48.here hx rfl (hb hby d_method_3_code_25) rfl  k) ?_
  refine Go.step (fun _ k => XS.iconst X_48.here hx rfl (hb hby d_method_3_code_26) k) ?_
  show Go p e below _ (T_48.setTop (mkF m 27 #[vR a1, vI 1, vR b44] [(.int (2 : Int32)), (.int (1 : Int32))]))
  refine Go.step (fun _ k => XS.icmpYes X_48.here hx rfl (pc0 := 27) (pc' := 36) rfl (hb hby d_method_3_code_27) rfl (flt ((by decide) : ¬ ((2 : Int32) < (1 : Int32)))).2.2.2 (by decide) (by decide) k) ?_
  show Go p e below _ (T_48.setTop (mkF m 36 #[vR a1, vI 1, vR b44] []))
  refine Go.step (fun _ k => XS.iloadN X_48.here hx rfl (hb hby d_method_3_code_36) rfl  k) ?_
  refine Go.step (fun _ k => XS.iconst X_48.here hx rfl (hb hby d_method_3_code_37) k) ?_
  show Go p e below _ (T_48.setTop (mkF m 38 #[vR a1, vI 1, vR b44] [(.int (3 : Int32)), (.int (1 : Int32))]))
  refine Go.step (fun _ k => XS.icmpYes X_48.here hx rfl (pc0 := 38) (pc' := 47) rfl (hb hby d_method_3_code_38) rfl (flt ((by decide) : ¬ ((3 : Int32) < (1 : Int32)))).2.2.2 (by decide) (by decide) k) ?_
  show Go p e below _ (T_48.setTop (mkF m 47 #[vR a1, vI 1, vR b44] []))
  refine Go.step (fun _ k => XS.iloadN X_48.here hx rfl (hb hby d_method_3_code_47) rfl  k) ?_
  refine Go.step (fun _ k => XS.iconst X_48.here hx rfl (hb hby d_method_3_code_48) k) ?_
  show Go p e below _ (T_48.setTop (mkF m 49 #[vR a1, vI 1, vR b44] [(.int (4 : Int32)), (.int (1 : Int32))]))
  refine Go.step (fun _ k => XS.icmpYes X_48.here hx rfl (pc0 := 49) (pc' := 58) rfl (hb hby d_method_3_code_49) rfl (flt ((by decide) : ¬ ((4 : Int32) < (1 : Int32)))).2.2.2 (by decide) (by decide) k) ?_
  show Go p e below _ (T_48.setTop (mkF m 58 #[vR a1, vI 1, vR b44] []))
  refine Go.step (fun _ k => XS.iloadN X_48.here hx rfl (hb hby d_method_3_code_58) rfl  k) ?_
  refine Go.step (fun _ k => XS.iconst X_48.here hx rfl (hb hby d_method_3_code_59) k) ?_
  show Go p e below _ (T_48.setTop (mkF m 60 #[vR a1, vI 1, vR b44] [(.int (5 : Int32)), (.int (1 : Int32))]))
  refine Go.step (fun _ k => XS.icmpYes X_48.here hx rfl (pc0 := 60) (pc' := 69) rfl (hb hby d_method_3_code_60) rfl (flt ((by decide) : ¬ ((5 : Int32) < (1 : Int32)))).2.2.2 (by decide) (by decide) k) ?_
  show Go p e below _ (T_48.setTop (mkF m 69 #[vR a1, vI 1, vR b44] []))
  refine Go.step (fun _ k => XS.iloadN X_48.here hx rfl (hb hby d_method_3_code_69) rfl  k) ?_
  refine Go.step (fun _ k => XS.bipush X_48.here hx rfl (hb hby d_method_3_code_70) k) ?_
  show Go p e below _ (T_48.setTop (mkF m 72 #[vR a1, vI 1, vR b44] [(.int (6 : Int32)), (.int (1 : Int32))]))
  refine Go.step (fun _ k => XS.icmpYes X_48.here hx rfl (pc0 := 72) (pc' := 83) rfl (hb hby d_method_3_code_72) rfl (flt ((by decide) : ¬ ((6 : Int32) < (1 : Int32)))).2.2.2 (by decide) (by decide) k) ?_
  show Go p e below _ (T_48.setTop (mkF m 83 #[vR a1, vI 1, vR b44] []))
  refine Go.step (fun _ k => XS.iloadN X_48.here hx rfl (hb hby d_method_3_code_83) rfl  k) ?_
  refine Go.step (fun _ k => XS.bipush X_48.here hx rfl (hb hby d_method_3_code_84) k) ?_
  show Go p e below _ (T_48.setTop (mkF m 86 #[vR a1, vI 1, vR b44] [(.int (7 : Int32)), (.int (1 : Int32))]))
  refine Go.step (fun _ k => XS.icmpYes X_48.here hx rfl (pc0 := 86) (pc' := 97) rfl (hb hby d_method_3_code_86) rfl (flt ((by decide) : ¬ ((7 : Int32) < (1 : Int32)))).2.2.2 (by decide) (by decide) k) ?_
  show Go p e below _ (T_48.setTop (mkF m 97 #[vR a1, vI 1, vR b44] []))
  refine Go.step (fun _ k => XS.aloadN X_48.here hx rfl (hb hby d_method_3_code_97) rfl rfl k) ?_
  show Go p e below _ (T_48.setTop (mkF m 98 #[vR a1, vI 1, vR b44] [(.ref b44)]))
  exact Go.retV X_48 hx hlk hret rfl (Or.inr (Or.inr (Or.inr (Or.inr ⟨rfl, rfl, rfl⟩)))) (hb hby d_method_3_code_98) (by decide) (by decide) (by rw [e_48]; exact ⟨b44, k_44, rfl, N_48, KP_48, sz_b44, V_48⟩)
--@E
--@C copy2
def Q_copy2 (Z : State) (zc : Int32) (va : Addr) (kv : ClassId) (ea : Addr) (eb : Addr) (wa : Addr) (wb : Addr) (a1 : Addr) (k1 : ClassId) (c0 : Int32) (c1 : Int32) (c2 : Int32) (c3 : Int32) (c4 : Int32) (c5 : Int32) (c6 : Int32) (c7 : Int32) (h0 : Heap) (n0 : Nat) (v : Option Value) (h : Heap) (L : List Loc) : Prop := ∃ (r : Addr) (kr : ClassId), v = some (.ref r) ∧ Fr n0 L ∧ Keep h0 h [] ∧ h0.size ≤ r ∧ Arv Z h r kr .char (2 : Int32) [(.int c0), (.int c1)] (.int (0 : Int32))
set_option maxRecDepth 65536 in
set_option maxHeartbeats 40000000 in
theorem rm_copy2 (l : Launch) (Z : State) (a0 : Array Value) (hw : ∀ d ∈ tables_1, d.before a0 Z = true) (zc : Int32) (va : Addr) (kv : ClassId) (ea : Addr) (eb : Addr) (wa : Addr) (wb : Addr) (a1 : Addr) (k1 : ClassId) (c0 : Int32) (c1 : Int32) (c2 : Int32) (c3 : Int32) (c4 : Int32) (c5 : Int32) (c6 : Int32) (c7 : Int32) (h0 : Heap) (n0 : Nat) (Z0 : n0 ≤ h0.size) (A_a1 : Arv Z h0 a1 k1 .char (8 : Int32) [(.int c0), (.int c1), (.int c2), (.int c3), (.int c4), (.int c5), (.int c6), (.int c7)] (.int (0 : Int32))) (l_c0 : (¬ c0 < 0 ∧ ¬ (255 : Int32) < c0)) (l_c1 : (¬ c1 < 0 ∧ ¬ (255 : Int32) < c1)) (l_c2 : (¬ c2 < 0 ∧ ¬ (255 : Int32) < c2)) (l_c3 : (¬ c3 < 0 ∧ ¬ (255 : Int32) < c3)) (l_c4 : (¬ c4 < 0 ∧ ¬ (255 : Int32) < c4)) (l_c5 : (¬ c5 < 0 ∧ ¬ (255 : Int32) < c5)) (l_c6 : (¬ c6 < 0 ∧ ¬ (255 : Int32) < c6)) (l_c7 : (¬ c7 < 0 ∧ ¬ (255 : Int32) < c7)) (hSt : St Z zc va kv ea eb wa wb) (hO : Old Z n0 h0) :
    CN l Z ({ cls := "com/example/patient_ledger/patientledger/EntryTypeFromWireNamePinLaw", name := "copy", desc := "([CI)[C" } : Jvm.MethodName) [(Jvm.Cond.code ({ cls := "com/example/patient_ledger/patientledger/EntryTypeFromWireNamePinLaw", name := "copy", desc := "([CI)[C" } : Jvm.MethodName) method_3_code (3 : Nat) (Option.some (Jvm.ClassFile.FieldType.array Jvm.ClassFile.FieldType.char)))] ({ frames := 0, cells := 1, slots := 2, locals := 0 } : Room) #[(.ref a1), (.int (2 : Int32))] h0 (Q_copy2 Z zc va kv ea eb wa wb a1 k1 c0 c1 c2 c3 c4 c5 c6 c7 h0 n0) := by
  refine CN.of (L0 := #[vR a1, vI 2, vU]) (plainFor_of_name pn_2) (fun m => by first | (simp [entryFrame, mkF, argsToLocals, Value.category]; done) | rfl) ?_
  intro p e s m below meth c s₁ hx hby hml hret hlk hZ hown hnm X0 e0
  have N0 := Fr.nil n0
  have KP0 := Keep.refl h0 []
  have hSt_ := hSt
  obtain ⟨S_cs, n_cs, S_va, E_va, A_va, S_ea, F_ea, S_wa, S_eb, F_eb, S_wb⟩ := hSt_
  show Go p e below _ (s₁.setTop (mkF m 0 #[vR a1, vI 2, vU] []))
  refine Go.step (fun _ k => XS.iloadN X0.here hx rfl (hb hby d_method_3_code_0) rfl  k) ?_
  show Go p e below _ (s₁.setTop (mkF m 1 #[vR a1, vI 2, vU] [(.int (2 : Int32))]))
  obtain ⟨T_50, h_50, k_50, X_50, e_50, E_50, A_50, st_50⟩ := newP X0 hx hZ (aty := .char) (wd_0 hw) e0 (g := (mkF m 1 #[vR a1, vI 2, vU] [(.int (2 : Int32))])) rfl (hb hby d_method_3_code_1) rfl (by decide) (cap := 2) (by decide) (by decide) (by decide) (by decide)
  obtain ⟨b50, q_50⟩ : ∃ z, z = h0.size := ⟨_, rfl⟩
  rw [← q_50] at A_50 st_50
  refine Go.step st_50 ?_
  have le_50 : h0.size ≤ h_50.size := E_50.1
  have KP_50 := KP0.ext E_50
  have O_50 := hO.ext E_50
  have ge_50 : h0.size ≤ b50 := Nat.le_of_eq q_50.symm
  have sz_b50 : h0.size ≤ b50 := Nat.le_trans (Nat.le_refl _) ge_50
  have g_b50 : n0 ≤ b50 := Nat.le_trans Z0 sz_b50
  have V_50 : Arv Z h_50 b50 k_50 .char (2 : Int32) [(.int (0 : Int32)), (.int (0 : Int32))] (.int (0 : Int32)) := (Arv.new A_50 (by decide)).pad (pad_rep [] (.int (0 : Int32)) 2)
  show Go p e below _ (T_50.setTop (mkF m 3 #[vR a1, vI 2, vU] [(.ref b50)]))
  refine Go.step (fun _ k => XS.astoreN X_50.here hx rfl (hb hby d_method_3_code_3) rfl rfl (l' := #[vR a1, vI 2, vR b50]) rfl k) ?_
  show Go p e below _ (T_50.setTop (mkF m 4 #[vR a1, vI 2, vR b50] []))
  refine Go.step (fun _ k => XS.iloadN X_50.here hx rfl (hb hby d_method_3_code_4) rfl  k) ?_
  show Go p e below _ (T_50.setTop (mkF m 5 #[vR a1, vI 2, vR b50] [(.int (2 : Int32))]))
  refine Go.step (fun _ k => XS.ifNo X_50.here hx rfl (hb hby d_method_3_code_5) rfl ((if0 _ _).trans (tlt ((by decide) : (0 : Int32) < (2 : Int32))).2.2.2) k) ?_
  show Go p e below _ (T_50.setTop (mkF m 8 #[vR a1, vI 2, vR b50] []))
  refine Go.step (fun _ k => XS.aloadN X_50.here hx rfl (hb hby d_method_3_code_8) rfl rfl k) ?_
  refine Go.step (fun _ k => XS.iconst X_50.here hx rfl (hb hby d_method_3_code_9) k) ?_
  refine Go.step (fun _ k => XS.aloadN X_50.here hx rfl (hb hby d_method_3_code_10) rfl rfl k) ?_
  refine Go.step (fun _ k => XS.iconst X_50.here hx rfl (hb hby d_method_3_code_11) k) ?_
  show Go p e below _ (T_50.setTop (mkF m 12 #[vR a1, vI 2, vR b50] [(.int (0 : Int32)), (.ref a1), (.int (0 : Int32)), (.ref b50)]))
  have f52 : Arv Z h_50 a1 k1 .char (8 : Int32) [(.int c0), (.int c1), (.int c2), (.int c3), (.int c4), (.int c5), (.int c6), (.int c7)] (.int (0 : Int32)) := (A_a1.ext E_50)
  have cp53 := f52
  obtain ⟨cl_51, Ar_51, -, Sz_51, -, Hs_51, -⟩ := cp53
  have hin_51 : ¬ ((0 : Int32) < 0 ∨ cl_51.slots.size ≤ ((0 : Int32)).toNatClampNeg) := (inb_of Sz_51 ⟨by decide, by decide⟩)
  have hat_51 : cl_51.slots[((0 : Int32)).toNatClampNeg]? = some (.int c0) := (Hs_51.at (inb_of Sz_51 ⟨by decide, by decide⟩) rfl)
  refine Go.step (fun _ k => X_50.caload hx (j := (0 : Int32)) (v := (.int c0)) (by rw [e_50]; exact Ar_51.1) (State.isArrayOf_alike hZ.alike Ar_51.2.1) Ar_51.2.2 hin_51 hat_51 (g := (mkF m 12 #[vR a1, vI 2, vR b50] [(.int (0 : Int32)), (.ref a1), (.int (0 : Int32)), (.ref b50)])) rfl rfl (hb hby d_method_3_code_12) _ k) ?_
  show Go p e below _ (T_50.setTop (mkF m 13 #[vR a1, vI 2, vR b50] [(.int c0), (.int (0 : Int32)), (.ref b50)]))
  have cp55 := V_50
  obtain ⟨cl_54, Ar_54, ck_54, Sz_54, Ng_54, Hs_54, Gs_54⟩ := cp55
  have hin_54 : ¬ ((0 : Int32) < 0 ∨ cl_54.slots.size ≤ ((0 : Int32)).toNatClampNeg) := inb_of Sz_54 ⟨by decide, by decide⟩
  obtain ⟨T_54, h_54, X_54, e_54, W_54, st_54⟩ := stC X_50 hx hZ e_50 Ar_54 (j := (0 : Int32)) hin_54 (g := (mkF m 13 #[vR a1, vI 2, vR b50] [(.int c0), (.int (0 : Int32)), (.ref b50)])) rfl rfl (hb hby d_method_3_code_13)
  refine Go.step st_54 ?_
  have N_54 := Fr.snoc X_54 N0 g_b50
  have le_54 : h_50.size ≤ h_54.size := Nat.le_of_eq W_54.size.symm
  have KP_54 := KP_50.wr W_54 (Or.inr sz_b50)
  have O_54 := O_50.wr W_54 g_b50
  have V_54 : Arv Z h_54 b50 k_50 .char (2 : Int32) [(.int c0), (.int (0 : Int32))] (.int (0 : Int32)) := by
    have q := Arv.set Ar_54 ck_54 Sz_54 Ng_54 Hs_54 Gs_54 (fits_nar_char _) W_54 0 rfl (Nat.le_of_ble_eq_true rfl)
    rw [nar_lat l_c0] at q; exact q
  show Go p e below _ (T_54.setTop (mkF m 14 #[vR a1, vI 2, vR b50] []))
  refine Go.step (fun _ k => XS.iloadN X_54.here hx rfl (hb hby d_method_3_code_14) rfl  k) ?_
  refine Go.step (fun _ k => XS.iconst X_54.here hx rfl (hb hby d_method_3_code_15) k) ?_
  show Go p e below _ (T_54.setTop (mkF m 16 #[vR a1, vI 2, vR b50] [(.int (1 : Int32)), (.int (2 : Int32))]))
  refine Go.step (fun _ k => XS.icmpNo X_54.here hx rfl (hb hby d_method_3_code_16) rfl (tlt ((by decide) : (1 : Int32) < (2 : Int32))).2.2.2 k) ?_
  show Go p e below _ (T_54.setTop (mkF m 19 #[vR a1, vI 2, vR b50] []))
  refine Go.step (fun _ k => XS.aloadN X_54.here hx rfl (hb hby d_method_3_code_19) rfl rfl k) ?_
  refine Go.step (fun _ k => XS.iconst X_54.here hx rfl (hb hby d_method_3_code_20) k) ?_
  refine Go.step (fun _ k => XS.aloadN X_54.here hx rfl (hb hby d_method_3_code_21) rfl rfl k) ?_
  refine Go.step (fun _ k => XS.iconst X_54.here hx rfl (hb hby d_method_3_code_22) k) ?_
  show Go p e below _ (T_54.setTop (mkF m 23 #[vR a1, vI 2, vR b50] [(.int (1 : Int32)), (.ref a1), (.int (1 : Int32)), (.ref b50)]))
  have f57 : Arv Z h_54 a1 k1 .char (8 : Int32) [(.int c0), (.int c1), (.int c2), (.int c3), (.int c4), (.int c5), (.int c6), (.int c7)] (.int (0 : Int32)) := (f52.other W_54 (Nat.ne_of_lt (Nat.lt_of_lt_of_le A_a1.lt (Nat.le_trans (Nat.le_refl _) ge_50))))
  have cp58 := f57
  obtain ⟨cl_56, Ar_56, -, Sz_56, -, Hs_56, -⟩ := cp58
  have hin_56 : ¬ ((1 : Int32) < 0 ∨ cl_56.slots.size ≤ ((1 : Int32)).toNatClampNeg) := (inb_of Sz_56 ⟨by decide, by decide⟩)
  have hat_56 : cl_56.slots[((1 : Int32)).toNatClampNeg]? = some (.int c1) := (Hs_56.at (inb_of Sz_56 ⟨by decide, by decide⟩) rfl)
  refine Go.step (fun _ k => X_54.caload hx (j := (1 : Int32)) (v := (.int c1)) (by rw [e_54]; exact Ar_56.1) (State.isArrayOf_alike hZ.alike Ar_56.2.1) Ar_56.2.2 hin_56 hat_56 (g := (mkF m 23 #[vR a1, vI 2, vR b50] [(.int (1 : Int32)), (.ref a1), (.int (1 : Int32)), (.ref b50)])) rfl rfl (hb hby d_method_3_code_23) _ k) ?_
  show Go p e below _ (T_54.setTop (mkF m 24 #[vR a1, vI 2, vR b50] [(.int c1), (.int (1 : Int32)), (.ref b50)]))
  have cp60 := V_54
  obtain ⟨cl_59, Ar_59, ck_59, Sz_59, Ng_59, Hs_59, Gs_59⟩ := cp60
  have hin_59 : ¬ ((1 : Int32) < 0 ∨ cl_59.slots.size ≤ ((1 : Int32)).toNatClampNeg) := inb_of Sz_59 ⟨by decide, by decide⟩
  obtain ⟨T_59, h_59, X_59, e_59, W_59, st_59⟩ := stC X_54 hx hZ e_54 Ar_59 (j := (1 : Int32)) hin_59 (g := (mkF m 24 #[vR a1, vI 2, vR b50] [(.int c1), (.int (1 : Int32)), (.ref b50)])) rfl rfl (hb hby d_method_3_code_24)
  refine Go.step st_59 ?_
  have N_59 := Fr.snoc X_59 N_54 g_b50
  have le_59 : h_54.size ≤ h_59.size := Nat.le_of_eq W_59.size.symm
  have KP_59 := KP_54.wr W_59 (Or.inr sz_b50)
  have O_59 := O_54.wr W_59 g_b50
  have V_59 : Arv Z h_59 b50 k_50 .char (2 : Int32) [(.int c0), (.int c1)] (.int (0 : Int32)) := by
    have q := Arv.set Ar_59 ck_59 Sz_59 Ng_59 Hs_59 Gs_59 (fits_nar_char _) W_59 1 rfl (Nat.le_of_ble_eq_true rfl)
    rw [nar_lat l_c1] at q; exact q
  show Go p e below _ (T_59.setTop (mkF m 25 #[vR a1, vI 2, vR b50] []))
  refine Go.step (fun _ k => XS.iloadN X_59.here hx rfl (hb hby d_method_3_code_25) rfl  k) ?_
  refine Go.step (fun _ k => XS.iconst X_59.here hx rfl (hb hby d_method_3_code_26) k) ?_
  show Go p e below _ (T_59.setTop (mkF m 27 #[vR a1, vI 2, vR b50] [(.int (2 : Int32)), (.int (2 : Int32))]))
  refine Go.step (fun _ k => XS.icmpYes X_59.here hx rfl (pc0 := 27) (pc' := 36) rfl (hb hby d_method_3_code_27) rfl (flt ((by decide) : ¬ ((2 : Int32) < (2 : Int32)))).2.2.2 (by decide) (by decide) k) ?_
  show Go p e below _ (T_59.setTop (mkF m 36 #[vR a1, vI 2, vR b50] []))
  refine Go.step (fun _ k => XS.iloadN X_59.here hx rfl (hb hby d_method_3_code_36) rfl  k) ?_
  refine Go.step (fun _ k => XS.iconst X_59.here hx rfl (hb hby d_method_3_code_37) k) ?_
  show Go p e below _ (T_59.setTop (mkF m 38 #[vR a1, vI 2, vR b50] [(.int (3 : Int32)), (.int (2 : Int32))]))
  refine Go.step (fun _ k => XS.icmpYes X_59.here hx rfl (pc0 := 38) (pc' := 47) rfl (hb hby d_method_3_code_38) rfl (flt ((by decide) : ¬ ((3 : Int32) < (2 : Int32)))).2.2.2 (by decide) (by decide) k) ?_
  show Go p e below _ (T_59.setTop (mkF m 47 #[vR a1, vI 2, vR b50] []))
  refine Go.step (fun _ k => XS.iloadN X_59.here hx rfl (hb hby d_method_3_code_47) rfl  k) ?_
  refine Go.step (fun _ k => XS.iconst X_59.here hx rfl (hb hby d_method_3_code_48) k) ?_
  show Go p e below _ (T_59.setTop (mkF m 49 #[vR a1, vI 2, vR b50] [(.int (4 : Int32)), (.int (2 : Int32))]))
  refine Go.step (fun _ k => XS.icmpYes X_59.here hx rfl (pc0 := 49) (pc' := 58) rfl (hb hby d_method_3_code_49) rfl (flt ((by decide) : ¬ ((4 : Int32) < (2 : Int32)))).2.2.2 (by decide) (by decide) k) ?_
  show Go p e below _ (T_59.setTop (mkF m 58 #[vR a1, vI 2, vR b50] []))
  refine Go.step (fun _ k => XS.iloadN X_59.here hx rfl (hb hby d_method_3_code_58) rfl  k) ?_
  refine Go.step (fun _ k => XS.iconst X_59.here hx rfl (hb hby d_method_3_code_59) k) ?_
  show Go p e below _ (T_59.setTop (mkF m 60 #[vR a1, vI 2, vR b50] [(.int (5 : Int32)), (.int (2 : Int32))]))
  refine Go.step (fun _ k => XS.icmpYes X_59.here hx rfl (pc0 := 60) (pc' := 69) rfl (hb hby d_method_3_code_60) rfl (flt ((by decide) : ¬ ((5 : Int32) < (2 : Int32)))).2.2.2 (by decide) (by decide) k) ?_
  show Go p e below _ (T_59.setTop (mkF m 69 #[vR a1, vI 2, vR b50] []))
  refine Go.step (fun _ k => XS.iloadN X_59.here hx rfl (hb hby d_method_3_code_69) rfl  k) ?_
  refine Go.step (fun _ k => XS.bipush X_59.here hx rfl (hb hby d_method_3_code_70) k) ?_
  show Go p e below _ (T_59.setTop (mkF m 72 #[vR a1, vI 2, vR b50] [(.int (6 : Int32)), (.int (2 : Int32))]))
  refine Go.step (fun _ k => XS.icmpYes X_59.here hx rfl (pc0 := 72) (pc' := 83) rfl (hb hby d_method_3_code_72) rfl (flt ((by decide) : ¬ ((6 : Int32) < (2 : Int32)))).2.2.2 (by decide) (by decide) k) ?_
  show Go p e below _ (T_59.setTop (mkF m 83 #[vR a1, vI 2, vR b50] []))
  refine Go.step (fun _ k => XS.iloadN X_59.here hx rfl (hb hby d_method_3_code_83) rfl  k) ?_
  refine Go.step (fun _ k => XS.bipush X_59.here hx rfl (hb hby d_method_3_code_84) k) ?_
  show Go p e below _ (T_59.setTop (mkF m 86 #[vR a1, vI 2, vR b50] [(.int (7 : Int32)), (.int (2 : Int32))]))
  refine Go.step (fun _ k => XS.icmpYes X_59.here hx rfl (pc0 := 86) (pc' := 97) rfl (hb hby d_method_3_code_86) rfl (flt ((by decide) : ¬ ((7 : Int32) < (2 : Int32)))).2.2.2 (by decide) (by decide) k) ?_
  show Go p e below _ (T_59.setTop (mkF m 97 #[vR a1, vI 2, vR b50] []))
  refine Go.step (fun _ k => XS.aloadN X_59.here hx rfl (hb hby d_method_3_code_97) rfl rfl k) ?_
  show Go p e below _ (T_59.setTop (mkF m 98 #[vR a1, vI 2, vR b50] [(.ref b50)]))
  exact Go.retV X_59 hx hlk hret rfl (Or.inr (Or.inr (Or.inr (Or.inr ⟨rfl, rfl, rfl⟩)))) (hb hby d_method_3_code_98) (by decide) (by decide) (by rw [e_59]; exact ⟨b50, k_50, rfl, N_59, KP_59, sz_b50, V_59⟩)
--@E
--@C copy3
def Q_copy3 (Z : State) (zc : Int32) (va : Addr) (kv : ClassId) (ea : Addr) (eb : Addr) (wa : Addr) (wb : Addr) (a1 : Addr) (k1 : ClassId) (c0 : Int32) (c1 : Int32) (c2 : Int32) (c3 : Int32) (c4 : Int32) (c5 : Int32) (c6 : Int32) (c7 : Int32) (h0 : Heap) (n0 : Nat) (v : Option Value) (h : Heap) (L : List Loc) : Prop := ∃ (r : Addr) (kr : ClassId), v = some (.ref r) ∧ Fr n0 L ∧ Keep h0 h [] ∧ h0.size ≤ r ∧ Arv Z h r kr .char (3 : Int32) [(.int c0), (.int c1), (.int c2)] (.int (0 : Int32))
set_option maxRecDepth 65536 in
set_option maxHeartbeats 40000000 in
theorem rm_copy3 (l : Launch) (Z : State) (a0 : Array Value) (hw : ∀ d ∈ tables_1, d.before a0 Z = true) (zc : Int32) (va : Addr) (kv : ClassId) (ea : Addr) (eb : Addr) (wa : Addr) (wb : Addr) (a1 : Addr) (k1 : ClassId) (c0 : Int32) (c1 : Int32) (c2 : Int32) (c3 : Int32) (c4 : Int32) (c5 : Int32) (c6 : Int32) (c7 : Int32) (h0 : Heap) (n0 : Nat) (Z0 : n0 ≤ h0.size) (A_a1 : Arv Z h0 a1 k1 .char (8 : Int32) [(.int c0), (.int c1), (.int c2), (.int c3), (.int c4), (.int c5), (.int c6), (.int c7)] (.int (0 : Int32))) (l_c0 : (¬ c0 < 0 ∧ ¬ (255 : Int32) < c0)) (l_c1 : (¬ c1 < 0 ∧ ¬ (255 : Int32) < c1)) (l_c2 : (¬ c2 < 0 ∧ ¬ (255 : Int32) < c2)) (l_c3 : (¬ c3 < 0 ∧ ¬ (255 : Int32) < c3)) (l_c4 : (¬ c4 < 0 ∧ ¬ (255 : Int32) < c4)) (l_c5 : (¬ c5 < 0 ∧ ¬ (255 : Int32) < c5)) (l_c6 : (¬ c6 < 0 ∧ ¬ (255 : Int32) < c6)) (l_c7 : (¬ c7 < 0 ∧ ¬ (255 : Int32) < c7)) (hSt : St Z zc va kv ea eb wa wb) (hO : Old Z n0 h0) :
    CN l Z ({ cls := "com/example/patient_ledger/patientledger/EntryTypeFromWireNamePinLaw", name := "copy", desc := "([CI)[C" } : Jvm.MethodName) [(Jvm.Cond.code ({ cls := "com/example/patient_ledger/patientledger/EntryTypeFromWireNamePinLaw", name := "copy", desc := "([CI)[C" } : Jvm.MethodName) method_3_code (3 : Nat) (Option.some (Jvm.ClassFile.FieldType.array Jvm.ClassFile.FieldType.char)))] ({ frames := 0, cells := 1, slots := 3, locals := 0 } : Room) #[(.ref a1), (.int (3 : Int32))] h0 (Q_copy3 Z zc va kv ea eb wa wb a1 k1 c0 c1 c2 c3 c4 c5 c6 c7 h0 n0) := by
  refine CN.of (L0 := #[vR a1, vI 3, vU]) (plainFor_of_name pn_2) (fun m => by first | (simp [entryFrame, mkF, argsToLocals, Value.category]; done) | rfl) ?_
  intro p e s m below meth c s₁ hx hby hml hret hlk hZ hown hnm X0 e0
  have N0 := Fr.nil n0
  have KP0 := Keep.refl h0 []
  have hSt_ := hSt
  obtain ⟨S_cs, n_cs, S_va, E_va, A_va, S_ea, F_ea, S_wa, S_eb, F_eb, S_wb⟩ := hSt_
  show Go p e below _ (s₁.setTop (mkF m 0 #[vR a1, vI 3, vU] []))
  refine Go.step (fun _ k => XS.iloadN X0.here hx rfl (hb hby d_method_3_code_0) rfl  k) ?_
  show Go p e below _ (s₁.setTop (mkF m 1 #[vR a1, vI 3, vU] [(.int (3 : Int32))]))
  obtain ⟨T_61, h_61, k_61, X_61, e_61, E_61, A_61, st_61⟩ := newP X0 hx hZ (aty := .char) (wd_0 hw) e0 (g := (mkF m 1 #[vR a1, vI 3, vU] [(.int (3 : Int32))])) rfl (hb hby d_method_3_code_1) rfl (by decide) (cap := 3) (by decide) (by decide) (by decide) (by decide)
  obtain ⟨b61, q_61⟩ : ∃ z, z = h0.size := ⟨_, rfl⟩
  rw [← q_61] at A_61 st_61
  refine Go.step st_61 ?_
  have le_61 : h0.size ≤ h_61.size := E_61.1
  have KP_61 := KP0.ext E_61
  have O_61 := hO.ext E_61
  have ge_61 : h0.size ≤ b61 := Nat.le_of_eq q_61.symm
  have sz_b61 : h0.size ≤ b61 := Nat.le_trans (Nat.le_refl _) ge_61
  have g_b61 : n0 ≤ b61 := Nat.le_trans Z0 sz_b61
  have V_61 : Arv Z h_61 b61 k_61 .char (3 : Int32) [(.int (0 : Int32)), (.int (0 : Int32)), (.int (0 : Int32))] (.int (0 : Int32)) := (Arv.new A_61 (by decide)).pad (pad_rep [] (.int (0 : Int32)) 3)
  show Go p e below _ (T_61.setTop (mkF m 3 #[vR a1, vI 3, vU] [(.ref b61)]))
  refine Go.step (fun _ k => XS.astoreN X_61.here hx rfl (hb hby d_method_3_code_3) rfl rfl (l' := #[vR a1, vI 3, vR b61]) rfl k) ?_
  show Go p e below _ (T_61.setTop (mkF m 4 #[vR a1, vI 3, vR b61] []))
  refine Go.step (fun _ k => XS.iloadN X_61.here hx rfl (hb hby d_method_3_code_4) rfl  k) ?_
  show Go p e below _ (T_61.setTop (mkF m 5 #[vR a1, vI 3, vR b61] [(.int (3 : Int32))]))
  refine Go.step (fun _ k => XS.ifNo X_61.here hx rfl (hb hby d_method_3_code_5) rfl ((if0 _ _).trans (tlt ((by decide) : (0 : Int32) < (3 : Int32))).2.2.2) k) ?_
  show Go p e below _ (T_61.setTop (mkF m 8 #[vR a1, vI 3, vR b61] []))
  refine Go.step (fun _ k => XS.aloadN X_61.here hx rfl (hb hby d_method_3_code_8) rfl rfl k) ?_
  refine Go.step (fun _ k => XS.iconst X_61.here hx rfl (hb hby d_method_3_code_9) k) ?_
  refine Go.step (fun _ k => XS.aloadN X_61.here hx rfl (hb hby d_method_3_code_10) rfl rfl k) ?_
  refine Go.step (fun _ k => XS.iconst X_61.here hx rfl (hb hby d_method_3_code_11) k) ?_
  show Go p e below _ (T_61.setTop (mkF m 12 #[vR a1, vI 3, vR b61] [(.int (0 : Int32)), (.ref a1), (.int (0 : Int32)), (.ref b61)]))
  have f63 : Arv Z h_61 a1 k1 .char (8 : Int32) [(.int c0), (.int c1), (.int c2), (.int c3), (.int c4), (.int c5), (.int c6), (.int c7)] (.int (0 : Int32)) := (A_a1.ext E_61)
  have cp64 := f63
  obtain ⟨cl_62, Ar_62, -, Sz_62, -, Hs_62, -⟩ := cp64
  have hin_62 : ¬ ((0 : Int32) < 0 ∨ cl_62.slots.size ≤ ((0 : Int32)).toNatClampNeg) := (inb_of Sz_62 ⟨by decide, by decide⟩)
  have hat_62 : cl_62.slots[((0 : Int32)).toNatClampNeg]? = some (.int c0) := (Hs_62.at (inb_of Sz_62 ⟨by decide, by decide⟩) rfl)
  refine Go.step (fun _ k => X_61.caload hx (j := (0 : Int32)) (v := (.int c0)) (by rw [e_61]; exact Ar_62.1) (State.isArrayOf_alike hZ.alike Ar_62.2.1) Ar_62.2.2 hin_62 hat_62 (g := (mkF m 12 #[vR a1, vI 3, vR b61] [(.int (0 : Int32)), (.ref a1), (.int (0 : Int32)), (.ref b61)])) rfl rfl (hb hby d_method_3_code_12) _ k) ?_
  show Go p e below _ (T_61.setTop (mkF m 13 #[vR a1, vI 3, vR b61] [(.int c0), (.int (0 : Int32)), (.ref b61)]))
  have cp66 := V_61
  obtain ⟨cl_65, Ar_65, ck_65, Sz_65, Ng_65, Hs_65, Gs_65⟩ := cp66
  have hin_65 : ¬ ((0 : Int32) < 0 ∨ cl_65.slots.size ≤ ((0 : Int32)).toNatClampNeg) := inb_of Sz_65 ⟨by decide, by decide⟩
  obtain ⟨T_65, h_65, X_65, e_65, W_65, st_65⟩ := stC X_61 hx hZ e_61 Ar_65 (j := (0 : Int32)) hin_65 (g := (mkF m 13 #[vR a1, vI 3, vR b61] [(.int c0), (.int (0 : Int32)), (.ref b61)])) rfl rfl (hb hby d_method_3_code_13)
  refine Go.step st_65 ?_
  have N_65 := Fr.snoc X_65 N0 g_b61
  have le_65 : h_61.size ≤ h_65.size := Nat.le_of_eq W_65.size.symm
  have KP_65 := KP_61.wr W_65 (Or.inr sz_b61)
  have O_65 := O_61.wr W_65 g_b61
  have V_65 : Arv Z h_65 b61 k_61 .char (3 : Int32) [(.int c0), (.int (0 : Int32)), (.int (0 : Int32))] (.int (0 : Int32)) := by
    have q := Arv.set Ar_65 ck_65 Sz_65 Ng_65 Hs_65 Gs_65 (fits_nar_char _) W_65 0 rfl (Nat.le_of_ble_eq_true rfl)
    rw [nar_lat l_c0] at q; exact q
  show Go p e below _ (T_65.setTop (mkF m 14 #[vR a1, vI 3, vR b61] []))
  refine Go.step (fun _ k => XS.iloadN X_65.here hx rfl (hb hby d_method_3_code_14) rfl  k) ?_
  refine Go.step (fun _ k => XS.iconst X_65.here hx rfl (hb hby d_method_3_code_15) k) ?_
  show Go p e below _ (T_65.setTop (mkF m 16 #[vR a1, vI 3, vR b61] [(.int (1 : Int32)), (.int (3 : Int32))]))
  refine Go.step (fun _ k => XS.icmpNo X_65.here hx rfl (hb hby d_method_3_code_16) rfl (tlt ((by decide) : (1 : Int32) < (3 : Int32))).2.2.2 k) ?_
  show Go p e below _ (T_65.setTop (mkF m 19 #[vR a1, vI 3, vR b61] []))
  refine Go.step (fun _ k => XS.aloadN X_65.here hx rfl (hb hby d_method_3_code_19) rfl rfl k) ?_
  refine Go.step (fun _ k => XS.iconst X_65.here hx rfl (hb hby d_method_3_code_20) k) ?_
  refine Go.step (fun _ k => XS.aloadN X_65.here hx rfl (hb hby d_method_3_code_21) rfl rfl k) ?_
  refine Go.step (fun _ k => XS.iconst X_65.here hx rfl (hb hby d_method_3_code_22) k) ?_
  show Go p e below _ (T_65.setTop (mkF m 23 #[vR a1, vI 3, vR b61] [(.int (1 : Int32)), (.ref a1), (.int (1 : Int32)), (.ref b61)]))
  have f68 : Arv Z h_65 a1 k1 .char (8 : Int32) [(.int c0), (.int c1), (.int c2), (.int c3), (.int c4), (.int c5), (.int c6), (.int c7)] (.int (0 : Int32)) := (f63.other W_65 (Nat.ne_of_lt (Nat.lt_of_lt_of_le A_a1.lt (Nat.le_trans (Nat.le_refl _) ge_61))))
  have cp69 := f68
  obtain ⟨cl_67, Ar_67, -, Sz_67, -, Hs_67, -⟩ := cp69
  have hin_67 : ¬ ((1 : Int32) < 0 ∨ cl_67.slots.size ≤ ((1 : Int32)).toNatClampNeg) := (inb_of Sz_67 ⟨by decide, by decide⟩)
  have hat_67 : cl_67.slots[((1 : Int32)).toNatClampNeg]? = some (.int c1) := (Hs_67.at (inb_of Sz_67 ⟨by decide, by decide⟩) rfl)
  refine Go.step (fun _ k => X_65.caload hx (j := (1 : Int32)) (v := (.int c1)) (by rw [e_65]; exact Ar_67.1) (State.isArrayOf_alike hZ.alike Ar_67.2.1) Ar_67.2.2 hin_67 hat_67 (g := (mkF m 23 #[vR a1, vI 3, vR b61] [(.int (1 : Int32)), (.ref a1), (.int (1 : Int32)), (.ref b61)])) rfl rfl (hb hby d_method_3_code_23) _ k) ?_
  show Go p e below _ (T_65.setTop (mkF m 24 #[vR a1, vI 3, vR b61] [(.int c1), (.int (1 : Int32)), (.ref b61)]))
  have cp71 := V_65
  obtain ⟨cl_70, Ar_70, ck_70, Sz_70, Ng_70, Hs_70, Gs_70⟩ := cp71
  have hin_70 : ¬ ((1 : Int32) < 0 ∨ cl_70.slots.size ≤ ((1 : Int32)).toNatClampNeg) := inb_of Sz_70 ⟨by decide, by decide⟩
  obtain ⟨T_70, h_70, X_70, e_70, W_70, st_70⟩ := stC X_65 hx hZ e_65 Ar_70 (j := (1 : Int32)) hin_70 (g := (mkF m 24 #[vR a1, vI 3, vR b61] [(.int c1), (.int (1 : Int32)), (.ref b61)])) rfl rfl (hb hby d_method_3_code_24)
  refine Go.step st_70 ?_
  have N_70 := Fr.snoc X_70 N_65 g_b61
  have le_70 : h_65.size ≤ h_70.size := Nat.le_of_eq W_70.size.symm
  have KP_70 := KP_65.wr W_70 (Or.inr sz_b61)
  have O_70 := O_65.wr W_70 g_b61
  have V_70 : Arv Z h_70 b61 k_61 .char (3 : Int32) [(.int c0), (.int c1), (.int (0 : Int32))] (.int (0 : Int32)) := by
    have q := Arv.set Ar_70 ck_70 Sz_70 Ng_70 Hs_70 Gs_70 (fits_nar_char _) W_70 1 rfl (Nat.le_of_ble_eq_true rfl)
    rw [nar_lat l_c1] at q; exact q
  show Go p e below _ (T_70.setTop (mkF m 25 #[vR a1, vI 3, vR b61] []))
  refine Go.step (fun _ k => XS.iloadN X_70.here hx rfl (hb hby d_method_3_code_25) rfl  k) ?_
  refine Go.step (fun _ k => XS.iconst X_70.here hx rfl (hb hby d_method_3_code_26) k) ?_
  show Go p e below _ (T_70.setTop (mkF m 27 #[vR a1, vI 3, vR b61] [(.int (2 : Int32)), (.int (3 : Int32))]))
  refine Go.step (fun _ k => XS.icmpNo X_70.here hx rfl (hb hby d_method_3_code_27) rfl (tlt ((by decide) : (2 : Int32) < (3 : Int32))).2.2.2 k) ?_
  show Go p e below _ (T_70.setTop (mkF m 30 #[vR a1, vI 3, vR b61] []))
  refine Go.step (fun _ k => XS.aloadN X_70.here hx rfl (hb hby d_method_3_code_30) rfl rfl k) ?_
  refine Go.step (fun _ k => XS.iconst X_70.here hx rfl (hb hby d_method_3_code_31) k) ?_
  refine Go.step (fun _ k => XS.aloadN X_70.here hx rfl (hb hby d_method_3_code_32) rfl rfl k) ?_
  refine Go.step (fun _ k => XS.iconst X_70.here hx rfl (hb hby d_method_3_code_33) k) ?_
  show Go p e below _ (T_70.setTop (mkF m 34 #[vR a1, vI 3, vR b61] [(.int (2 : Int32)), (.ref a1), (.int (2 : Int32)), (.ref b61)]))
  have f73 : Arv Z h_70 a1 k1 .char (8 : Int32) [(.int c0), (.int c1), (.int c2), (.int c3), (.int c4), (.int c5), (.int c6), (.int c7)] (.int (0 : Int32)) := (f68.other W_70 (Nat.ne_of_lt (Nat.lt_of_lt_of_le A_a1.lt (Nat.le_trans (Nat.le_refl _) ge_61))))
  have cp74 := f73
  obtain ⟨cl_72, Ar_72, -, Sz_72, -, Hs_72, -⟩ := cp74
  have hin_72 : ¬ ((2 : Int32) < 0 ∨ cl_72.slots.size ≤ ((2 : Int32)).toNatClampNeg) := (inb_of Sz_72 ⟨by decide, by decide⟩)
  have hat_72 : cl_72.slots[((2 : Int32)).toNatClampNeg]? = some (.int c2) := (Hs_72.at (inb_of Sz_72 ⟨by decide, by decide⟩) rfl)
  refine Go.step (fun _ k => X_70.caload hx (j := (2 : Int32)) (v := (.int c2)) (by rw [e_70]; exact Ar_72.1) (State.isArrayOf_alike hZ.alike Ar_72.2.1) Ar_72.2.2 hin_72 hat_72 (g := (mkF m 34 #[vR a1, vI 3, vR b61] [(.int (2 : Int32)), (.ref a1), (.int (2 : Int32)), (.ref b61)])) rfl rfl (hb hby d_method_3_code_34) _ k) ?_
  show Go p e below _ (T_70.setTop (mkF m 35 #[vR a1, vI 3, vR b61] [(.int c2), (.int (2 : Int32)), (.ref b61)]))
  have cp76 := V_70
  obtain ⟨cl_75, Ar_75, ck_75, Sz_75, Ng_75, Hs_75, Gs_75⟩ := cp76
  have hin_75 : ¬ ((2 : Int32) < 0 ∨ cl_75.slots.size ≤ ((2 : Int32)).toNatClampNeg) := inb_of Sz_75 ⟨by decide, by decide⟩
  obtain ⟨T_75, h_75, X_75, e_75, W_75, st_75⟩ := stC X_70 hx hZ e_70 Ar_75 (j := (2 : Int32)) hin_75 (g := (mkF m 35 #[vR a1, vI 3, vR b61] [(.int c2), (.int (2 : Int32)), (.ref b61)])) rfl rfl (hb hby d_method_3_code_35)
  refine Go.step st_75 ?_
  have N_75 := Fr.snoc X_75 N_70 g_b61
  have le_75 : h_70.size ≤ h_75.size := Nat.le_of_eq W_75.size.symm
  have KP_75 := KP_70.wr W_75 (Or.inr sz_b61)
  have O_75 := O_70.wr W_75 g_b61
  have V_75 : Arv Z h_75 b61 k_61 .char (3 : Int32) [(.int c0), (.int c1), (.int c2)] (.int (0 : Int32)) := by
    have q := Arv.set Ar_75 ck_75 Sz_75 Ng_75 Hs_75 Gs_75 (fits_nar_char _) W_75 2 rfl (Nat.le_of_ble_eq_true rfl)
    rw [nar_lat l_c2] at q; exact q
  show Go p e below _ (T_75.setTop (mkF m 36 #[vR a1, vI 3, vR b61] []))
  refine Go.step (fun _ k => XS.iloadN X_75.here hx rfl (hb hby d_method_3_code_36) rfl  k) ?_
  refine Go.step (fun _ k => XS.iconst X_75.here hx rfl (hb hby d_method_3_code_37) k) ?_
  show Go p e below _ (T_75.setTop (mkF m 38 #[vR a1, vI 3, vR b61] [(.int (3 : Int32)), (.int (3 : Int32))]))
  refine Go.step (fun _ k => XS.icmpYes X_75.here hx rfl (pc0 := 38) (pc' := 47) rfl (hb hby d_method_3_code_38) rfl (flt ((by decide) : ¬ ((3 : Int32) < (3 : Int32)))).2.2.2 (by decide) (by decide) k) ?_
  show Go p e below _ (T_75.setTop (mkF m 47 #[vR a1, vI 3, vR b61] []))
  refine Go.step (fun _ k => XS.iloadN X_75.here hx rfl (hb hby d_method_3_code_47) rfl  k) ?_
  refine Go.step (fun _ k => XS.iconst X_75.here hx rfl (hb hby d_method_3_code_48) k) ?_
  show Go p e below _ (T_75.setTop (mkF m 49 #[vR a1, vI 3, vR b61] [(.int (4 : Int32)), (.int (3 : Int32))]))
  refine Go.step (fun _ k => XS.icmpYes X_75.here hx rfl (pc0 := 49) (pc' := 58) rfl (hb hby d_method_3_code_49) rfl (flt ((by decide) : ¬ ((4 : Int32) < (3 : Int32)))).2.2.2 (by decide) (by decide) k) ?_
  show Go p e below _ (T_75.setTop (mkF m 58 #[vR a1, vI 3, vR b61] []))
  refine Go.step (fun _ k => XS.iloadN X_75.here hx rfl (hb hby d_method_3_code_58) rfl  k) ?_
  refine Go.step (fun _ k => XS.iconst X_75.here hx rfl (hb hby d_method_3_code_59) k) ?_
  show Go p e below _ (T_75.setTop (mkF m 60 #[vR a1, vI 3, vR b61] [(.int (5 : Int32)), (.int (3 : Int32))]))
  refine Go.step (fun _ k => XS.icmpYes X_75.here hx rfl (pc0 := 60) (pc' := 69) rfl (hb hby d_method_3_code_60) rfl (flt ((by decide) : ¬ ((5 : Int32) < (3 : Int32)))).2.2.2 (by decide) (by decide) k) ?_
  show Go p e below _ (T_75.setTop (mkF m 69 #[vR a1, vI 3, vR b61] []))
  refine Go.step (fun _ k => XS.iloadN X_75.here hx rfl (hb hby d_method_3_code_69) rfl  k) ?_
  refine Go.step (fun _ k => XS.bipush X_75.here hx rfl (hb hby d_method_3_code_70) k) ?_
  show Go p e below _ (T_75.setTop (mkF m 72 #[vR a1, vI 3, vR b61] [(.int (6 : Int32)), (.int (3 : Int32))]))
  refine Go.step (fun _ k => XS.icmpYes X_75.here hx rfl (pc0 := 72) (pc' := 83) rfl (hb hby d_method_3_code_72) rfl (flt ((by decide) : ¬ ((6 : Int32) < (3 : Int32)))).2.2.2 (by decide) (by decide) k) ?_
  show Go p e below _ (T_75.setTop (mkF m 83 #[vR a1, vI 3, vR b61] []))
  refine Go.step (fun _ k => XS.iloadN X_75.here hx rfl (hb hby d_method_3_code_83) rfl  k) ?_
  refine Go.step (fun _ k => XS.bipush X_75.here hx rfl (hb hby d_method_3_code_84) k) ?_
  show Go p e below _ (T_75.setTop (mkF m 86 #[vR a1, vI 3, vR b61] [(.int (7 : Int32)), (.int (3 : Int32))]))
  refine Go.step (fun _ k => XS.icmpYes X_75.here hx rfl (pc0 := 86) (pc' := 97) rfl (hb hby d_method_3_code_86) rfl (flt ((by decide) : ¬ ((7 : Int32) < (3 : Int32)))).2.2.2 (by decide) (by decide) k) ?_
  show Go p e below _ (T_75.setTop (mkF m 97 #[vR a1, vI 3, vR b61] []))
  refine Go.step (fun _ k => XS.aloadN X_75.here hx rfl (hb hby d_method_3_code_97) rfl rfl k) ?_
  show Go p e below _ (T_75.setTop (mkF m 98 #[vR a1, vI 3, vR b61] [(.ref b61)]))
  exact Go.retV X_75 hx hlk hret rfl (Or.inr (Or.inr (Or.inr (Or.inr ⟨rfl, rfl, rfl⟩)))) (hb hby d_method_3_code_98) (by decide) (by decide) (by rw [e_75]; exact ⟨b61, k_61, rfl, N_75, KP_75, sz_b61, V_75⟩)
--@E
--@C copy4
def Q_copy4 (Z : State) (zc : Int32) (va : Addr) (kv : ClassId) (ea : Addr) (eb : Addr) (wa : Addr) (wb : Addr) (a1 : Addr) (k1 : ClassId) (c0 : Int32) (c1 : Int32) (c2 : Int32) (c3 : Int32) (c4 : Int32) (c5 : Int32) (c6 : Int32) (c7 : Int32) (h0 : Heap) (n0 : Nat) (v : Option Value) (h : Heap) (L : List Loc) : Prop := ∃ (r : Addr) (kr : ClassId), v = some (.ref r) ∧ Fr n0 L ∧ Keep h0 h [] ∧ h0.size ≤ r ∧ Arv Z h r kr .char (4 : Int32) [(.int c0), (.int c1), (.int c2), (.int c3)] (.int (0 : Int32))
set_option maxRecDepth 65536 in
set_option maxHeartbeats 40000000 in
theorem rm_copy4 (l : Launch) (Z : State) (a0 : Array Value) (hw : ∀ d ∈ tables_1, d.before a0 Z = true) (zc : Int32) (va : Addr) (kv : ClassId) (ea : Addr) (eb : Addr) (wa : Addr) (wb : Addr) (a1 : Addr) (k1 : ClassId) (c0 : Int32) (c1 : Int32) (c2 : Int32) (c3 : Int32) (c4 : Int32) (c5 : Int32) (c6 : Int32) (c7 : Int32) (h0 : Heap) (n0 : Nat) (Z0 : n0 ≤ h0.size) (A_a1 : Arv Z h0 a1 k1 .char (8 : Int32) [(.int c0), (.int c1), (.int c2), (.int c3), (.int c4), (.int c5), (.int c6), (.int c7)] (.int (0 : Int32))) (l_c0 : (¬ c0 < 0 ∧ ¬ (255 : Int32) < c0)) (l_c1 : (¬ c1 < 0 ∧ ¬ (255 : Int32) < c1)) (l_c2 : (¬ c2 < 0 ∧ ¬ (255 : Int32) < c2)) (l_c3 : (¬ c3 < 0 ∧ ¬ (255 : Int32) < c3)) (l_c4 : (¬ c4 < 0 ∧ ¬ (255 : Int32) < c4)) (l_c5 : (¬ c5 < 0 ∧ ¬ (255 : Int32) < c5)) (l_c6 : (¬ c6 < 0 ∧ ¬ (255 : Int32) < c6)) (l_c7 : (¬ c7 < 0 ∧ ¬ (255 : Int32) < c7)) (hSt : St Z zc va kv ea eb wa wb) (hO : Old Z n0 h0) :
    CN l Z ({ cls := "com/example/patient_ledger/patientledger/EntryTypeFromWireNamePinLaw", name := "copy", desc := "([CI)[C" } : Jvm.MethodName) [(Jvm.Cond.code ({ cls := "com/example/patient_ledger/patientledger/EntryTypeFromWireNamePinLaw", name := "copy", desc := "([CI)[C" } : Jvm.MethodName) method_3_code (3 : Nat) (Option.some (Jvm.ClassFile.FieldType.array Jvm.ClassFile.FieldType.char)))] ({ frames := 0, cells := 1, slots := 4, locals := 0 } : Room) #[(.ref a1), (.int (4 : Int32))] h0 (Q_copy4 Z zc va kv ea eb wa wb a1 k1 c0 c1 c2 c3 c4 c5 c6 c7 h0 n0) := by
  refine CN.of (L0 := #[vR a1, vI 4, vU]) (plainFor_of_name pn_2) (fun m => by first | (simp [entryFrame, mkF, argsToLocals, Value.category]; done) | rfl) ?_
  intro p e s m below meth c s₁ hx hby hml hret hlk hZ hown hnm X0 e0
  have N0 := Fr.nil n0
  have KP0 := Keep.refl h0 []
  have hSt_ := hSt
  obtain ⟨S_cs, n_cs, S_va, E_va, A_va, S_ea, F_ea, S_wa, S_eb, F_eb, S_wb⟩ := hSt_
  show Go p e below _ (s₁.setTop (mkF m 0 #[vR a1, vI 4, vU] []))
  refine Go.step (fun _ k => XS.iloadN X0.here hx rfl (hb hby d_method_3_code_0) rfl  k) ?_
  show Go p e below _ (s₁.setTop (mkF m 1 #[vR a1, vI 4, vU] [(.int (4 : Int32))]))
  obtain ⟨T_77, h_77, k_77, X_77, e_77, E_77, A_77, st_77⟩ := newP X0 hx hZ (aty := .char) (wd_0 hw) e0 (g := (mkF m 1 #[vR a1, vI 4, vU] [(.int (4 : Int32))])) rfl (hb hby d_method_3_code_1) rfl (by decide) (cap := 4) (by decide) (by decide) (by decide) (by decide)
  obtain ⟨b77, q_77⟩ : ∃ z, z = h0.size := ⟨_, rfl⟩
  rw [← q_77] at A_77 st_77
  refine Go.step st_77 ?_
  have le_77 : h0.size ≤ h_77.size := E_77.1
  have KP_77 := KP0.ext E_77
  have O_77 := hO.ext E_77
  have ge_77 : h0.size ≤ b77 := Nat.le_of_eq q_77.symm
  have sz_b77 : h0.size ≤ b77 := Nat.le_trans (Nat.le_refl _) ge_77
  have g_b77 : n0 ≤ b77 := Nat.le_trans Z0 sz_b77
  have V_77 : Arv Z h_77 b77 k_77 .char (4 : Int32) [(.int (0 : Int32)), (.int (0 : Int32)), (.int (0 : Int32)), (.int (0 : Int32))] (.int (0 : Int32)) := (Arv.new A_77 (by decide)).pad (pad_rep [] (.int (0 : Int32)) 4)
  show Go p e below _ (T_77.setTop (mkF m 3 #[vR a1, vI 4, vU] [(.ref b77)]))
  refine Go.step (fun _ k => XS.astoreN X_77.here hx rfl (hb hby d_method_3_code_3) rfl rfl (l' := #[vR a1, vI 4, vR b77]) rfl k) ?_
  show Go p e below _ (T_77.setTop (mkF m 4 #[vR a1, vI 4, vR b77] []))
  refine Go.step (fun _ k => XS.iloadN X_77.here hx rfl (hb hby d_method_3_code_4) rfl  k) ?_
  show Go p e below _ (T_77.setTop (mkF m 5 #[vR a1, vI 4, vR b77] [(.int (4 : Int32))]))
  refine Go.step (fun _ k => XS.ifNo X_77.here hx rfl (hb hby d_method_3_code_5) rfl ((if0 _ _).trans (tlt ((by decide) : (0 : Int32) < (4 : Int32))).2.2.2) k) ?_
  show Go p e below _ (T_77.setTop (mkF m 8 #[vR a1, vI 4, vR b77] []))
  refine Go.step (fun _ k => XS.aloadN X_77.here hx rfl (hb hby d_method_3_code_8) rfl rfl k) ?_
  refine Go.step (fun _ k => XS.iconst X_77.here hx rfl (hb hby d_method_3_code_9) k) ?_
  refine Go.step (fun _ k => XS.aloadN X_77.here hx rfl (hb hby d_method_3_code_10) rfl rfl k) ?_
  refine Go.step (fun _ k => XS.iconst X_77.here hx rfl (hb hby d_method_3_code_11) k) ?_
  show Go p e below _ (T_77.setTop (mkF m 12 #[vR a1, vI 4, vR b77] [(.int (0 : Int32)), (.ref a1), (.int (0 : Int32)), (.ref b77)]))
  have f79 : Arv Z h_77 a1 k1 .char (8 : Int32) [(.int c0), (.int c1), (.int c2), (.int c3), (.int c4), (.int c5), (.int c6), (.int c7)] (.int (0 : Int32)) := (A_a1.ext E_77)
  have cp80 := f79
  obtain ⟨cl_78, Ar_78, -, Sz_78, -, Hs_78, -⟩ := cp80
  have hin_78 : ¬ ((0 : Int32) < 0 ∨ cl_78.slots.size ≤ ((0 : Int32)).toNatClampNeg) := (inb_of Sz_78 ⟨by decide, by decide⟩)
  have hat_78 : cl_78.slots[((0 : Int32)).toNatClampNeg]? = some (.int c0) := (Hs_78.at (inb_of Sz_78 ⟨by decide, by decide⟩) rfl)
  refine Go.step (fun _ k => X_77.caload hx (j := (0 : Int32)) (v := (.int c0)) (by rw [e_77]; exact Ar_78.1) (State.isArrayOf_alike hZ.alike Ar_78.2.1) Ar_78.2.2 hin_78 hat_78 (g := (mkF m 12 #[vR a1, vI 4, vR b77] [(.int (0 : Int32)), (.ref a1), (.int (0 : Int32)), (.ref b77)])) rfl rfl (hb hby d_method_3_code_12) _ k) ?_
  show Go p e below _ (T_77.setTop (mkF m 13 #[vR a1, vI 4, vR b77] [(.int c0), (.int (0 : Int32)), (.ref b77)]))
  have cp82 := V_77
  obtain ⟨cl_81, Ar_81, ck_81, Sz_81, Ng_81, Hs_81, Gs_81⟩ := cp82
  have hin_81 : ¬ ((0 : Int32) < 0 ∨ cl_81.slots.size ≤ ((0 : Int32)).toNatClampNeg) := inb_of Sz_81 ⟨by decide, by decide⟩
  obtain ⟨T_81, h_81, X_81, e_81, W_81, st_81⟩ := stC X_77 hx hZ e_77 Ar_81 (j := (0 : Int32)) hin_81 (g := (mkF m 13 #[vR a1, vI 4, vR b77] [(.int c0), (.int (0 : Int32)), (.ref b77)])) rfl rfl (hb hby d_method_3_code_13)
  refine Go.step st_81 ?_
  have N_81 := Fr.snoc X_81 N0 g_b77
  have le_81 : h_77.size ≤ h_81.size := Nat.le_of_eq W_81.size.symm
  have KP_81 := KP_77.wr W_81 (Or.inr sz_b77)
  have O_81 := O_77.wr W_81 g_b77
  have V_81 : Arv Z h_81 b77 k_77 .char (4 : Int32) [(.int c0), (.int (0 : Int32)), (.int (0 : Int32)), (.int (0 : Int32))] (.int (0 : Int32)) := by
    have q := Arv.set Ar_81 ck_81 Sz_81 Ng_81 Hs_81 Gs_81 (fits_nar_char _) W_81 0 rfl (Nat.le_of_ble_eq_true rfl)
    rw [nar_lat l_c0] at q; exact q
  show Go p e below _ (T_81.setTop (mkF m 14 #[vR a1, vI 4, vR b77] []))
  refine Go.step (fun _ k => XS.iloadN X_81.here hx rfl (hb hby d_method_3_code_14) rfl  k) ?_
  refine Go.step (fun _ k => XS.iconst X_81.here hx rfl (hb hby d_method_3_code_15) k) ?_
  show Go p e below _ (T_81.setTop (mkF m 16 #[vR a1, vI 4, vR b77] [(.int (1 : Int32)), (.int (4 : Int32))]))
  refine Go.step (fun _ k => XS.icmpNo X_81.here hx rfl (hb hby d_method_3_code_16) rfl (tlt ((by decide) : (1 : Int32) < (4 : Int32))).2.2.2 k) ?_
  show Go p e below _ (T_81.setTop (mkF m 19 #[vR a1, vI 4, vR b77] []))
  refine Go.step (fun _ k => XS.aloadN X_81.here hx rfl (hb hby d_method_3_code_19) rfl rfl k) ?_
  refine Go.step (fun _ k => XS.iconst X_81.here hx rfl (hb hby d_method_3_code_20) k) ?_
  refine Go.step (fun _ k => XS.aloadN X_81.here hx rfl (hb hby d_method_3_code_21) rfl rfl k) ?_
  refine Go.step (fun _ k => XS.iconst X_81.here hx rfl (hb hby d_method_3_code_22) k) ?_
  show Go p e below _ (T_81.setTop (mkF m 23 #[vR a1, vI 4, vR b77] [(.int (1 : Int32)), (.ref a1), (.int (1 : Int32)), (.ref b77)]))
  have f84 : Arv Z h_81 a1 k1 .char (8 : Int32) [(.int c0), (.int c1), (.int c2), (.int c3), (.int c4), (.int c5), (.int c6), (.int c7)] (.int (0 : Int32)) := (f79.other W_81 (Nat.ne_of_lt (Nat.lt_of_lt_of_le A_a1.lt (Nat.le_trans (Nat.le_refl _) ge_77))))
  have cp85 := f84
  obtain ⟨cl_83, Ar_83, -, Sz_83, -, Hs_83, -⟩ := cp85
  have hin_83 : ¬ ((1 : Int32) < 0 ∨ cl_83.slots.size ≤ ((1 : Int32)).toNatClampNeg) := (inb_of Sz_83 ⟨by decide, by decide⟩)
  have hat_83 : cl_83.slots[((1 : Int32)).toNatClampNeg]? = some (.int c1) := (Hs_83.at (inb_of Sz_83 ⟨by decide, by decide⟩) rfl)
  refine Go.step (fun _ k => X_81.caload hx (j := (1 : Int32)) (v := (.int c1)) (by rw [e_81]; exact Ar_83.1) (State.isArrayOf_alike hZ.alike Ar_83.2.1) Ar_83.2.2 hin_83 hat_83 (g := (mkF m 23 #[vR a1, vI 4, vR b77] [(.int (1 : Int32)), (.ref a1), (.int (1 : Int32)), (.ref b77)])) rfl rfl (hb hby d_method_3_code_23) _ k) ?_
  show Go p e below _ (T_81.setTop (mkF m 24 #[vR a1, vI 4, vR b77] [(.int c1), (.int (1 : Int32)), (.ref b77)]))
  have cp87 := V_81
  obtain ⟨cl_86, Ar_86, ck_86, Sz_86, Ng_86, Hs_86, Gs_86⟩ := cp87
  have hin_86 : ¬ ((1 : Int32) < 0 ∨ cl_86.slots.size ≤ ((1 : Int32)).toNatClampNeg) := inb_of Sz_86 ⟨by decide, by decide⟩
  obtain ⟨T_86, h_86, X_86, e_86, W_86, st_86⟩ := stC X_81 hx hZ e_81 Ar_86 (j := (1 : Int32)) hin_86 (g := (mkF m 24 #[vR a1, vI 4, vR b77] [(.int c1), (.int (1 : Int32)), (.ref b77)])) rfl rfl (hb hby d_method_3_code_24)
  refine Go.step st_86 ?_
  have N_86 := Fr.snoc X_86 N_81 g_b77
  have le_86 : h_81.size ≤ h_86.size := Nat.le_of_eq W_86.size.symm
  have KP_86 := KP_81.wr W_86 (Or.inr sz_b77)
  have O_86 := O_81.wr W_86 g_b77
  have V_86 : Arv Z h_86 b77 k_77 .char (4 : Int32) [(.int c0), (.int c1), (.int (0 : Int32)), (.int (0 : Int32))] (.int (0 : Int32)) := by
    have q := Arv.set Ar_86 ck_86 Sz_86 Ng_86 Hs_86 Gs_86 (fits_nar_char _) W_86 1 rfl (Nat.le_of_ble_eq_true rfl)
    rw [nar_lat l_c1] at q; exact q
  show Go p e below _ (T_86.setTop (mkF m 25 #[vR a1, vI 4, vR b77] []))
  refine Go.step (fun _ k => XS.iloadN X_86.here hx rfl (hb hby d_method_3_code_25) rfl  k) ?_
  refine Go.step (fun _ k => XS.iconst X_86.here hx rfl (hb hby d_method_3_code_26) k) ?_
  show Go p e below _ (T_86.setTop (mkF m 27 #[vR a1, vI 4, vR b77] [(.int (2 : Int32)), (.int (4 : Int32))]))
  refine Go.step (fun _ k => XS.icmpNo X_86.here hx rfl (hb hby d_method_3_code_27) rfl (tlt ((by decide) : (2 : Int32) < (4 : Int32))).2.2.2 k) ?_
  show Go p e below _ (T_86.setTop (mkF m 30 #[vR a1, vI 4, vR b77] []))
  refine Go.step (fun _ k => XS.aloadN X_86.here hx rfl (hb hby d_method_3_code_30) rfl rfl k) ?_
  refine Go.step (fun _ k => XS.iconst X_86.here hx rfl (hb hby d_method_3_code_31) k) ?_
  refine Go.step (fun _ k => XS.aloadN X_86.here hx rfl (hb hby d_method_3_code_32) rfl rfl k) ?_
  refine Go.step (fun _ k => XS.iconst X_86.here hx rfl (hb hby d_method_3_code_33) k) ?_
  show Go p e below _ (T_86.setTop (mkF m 34 #[vR a1, vI 4, vR b77] [(.int (2 : Int32)), (.ref a1), (.int (2 : Int32)), (.ref b77)]))
  have f89 : Arv Z h_86 a1 k1 .char (8 : Int32) [(.int c0), (.int c1), (.int c2), (.int c3), (.int c4), (.int c5), (.int c6), (.int c7)] (.int (0 : Int32)) := (f84.other W_86 (Nat.ne_of_lt (Nat.lt_of_lt_of_le A_a1.lt (Nat.le_trans (Nat.le_refl _) ge_77))))
  have cp90 := f89
  obtain ⟨cl_88, Ar_88, -, Sz_88, -, Hs_88, -⟩ := cp90
  have hin_88 : ¬ ((2 : Int32) < 0 ∨ cl_88.slots.size ≤ ((2 : Int32)).toNatClampNeg) := (inb_of Sz_88 ⟨by decide, by decide⟩)
  have hat_88 : cl_88.slots[((2 : Int32)).toNatClampNeg]? = some (.int c2) := (Hs_88.at (inb_of Sz_88 ⟨by decide, by decide⟩) rfl)
  refine Go.step (fun _ k => X_86.caload hx (j := (2 : Int32)) (v := (.int c2)) (by rw [e_86]; exact Ar_88.1) (State.isArrayOf_alike hZ.alike Ar_88.2.1) Ar_88.2.2 hin_88 hat_88 (g := (mkF m 34 #[vR a1, vI 4, vR b77] [(.int (2 : Int32)), (.ref a1), (.int (2 : Int32)), (.ref b77)])) rfl rfl (hb hby d_method_3_code_34) _ k) ?_
  show Go p e below _ (T_86.setTop (mkF m 35 #[vR a1, vI 4, vR b77] [(.int c2), (.int (2 : Int32)), (.ref b77)]))
  have cp92 := V_86
  obtain ⟨cl_91, Ar_91, ck_91, Sz_91, Ng_91, Hs_91, Gs_91⟩ := cp92
  have hin_91 : ¬ ((2 : Int32) < 0 ∨ cl_91.slots.size ≤ ((2 : Int32)).toNatClampNeg) := inb_of Sz_91 ⟨by decide, by decide⟩
  obtain ⟨T_91, h_91, X_91, e_91, W_91, st_91⟩ := stC X_86 hx hZ e_86 Ar_91 (j := (2 : Int32)) hin_91 (g := (mkF m 35 #[vR a1, vI 4, vR b77] [(.int c2), (.int (2 : Int32)), (.ref b77)])) rfl rfl (hb hby d_method_3_code_35)
  refine Go.step st_91 ?_
  have N_91 := Fr.snoc X_91 N_86 g_b77
  have le_91 : h_86.size ≤ h_91.size := Nat.le_of_eq W_91.size.symm
  have KP_91 := KP_86.wr W_91 (Or.inr sz_b77)
  have O_91 := O_86.wr W_91 g_b77
  have V_91 : Arv Z h_91 b77 k_77 .char (4 : Int32) [(.int c0), (.int c1), (.int c2), (.int (0 : Int32))] (.int (0 : Int32)) := by
    have q := Arv.set Ar_91 ck_91 Sz_91 Ng_91 Hs_91 Gs_91 (fits_nar_char _) W_91 2 rfl (Nat.le_of_ble_eq_true rfl)
    rw [nar_lat l_c2] at q; exact q
  show Go p e below _ (T_91.setTop (mkF m 36 #[vR a1, vI 4, vR b77] []))
  refine Go.step (fun _ k => XS.iloadN X_91.here hx rfl (hb hby d_method_3_code_36) rfl  k) ?_
  refine Go.step (fun _ k => XS.iconst X_91.here hx rfl (hb hby d_method_3_code_37) k) ?_
  show Go p e below _ (T_91.setTop (mkF m 38 #[vR a1, vI 4, vR b77] [(.int (3 : Int32)), (.int (4 : Int32))]))
  refine Go.step (fun _ k => XS.icmpNo X_91.here hx rfl (hb hby d_method_3_code_38) rfl (tlt ((by decide) : (3 : Int32) < (4 : Int32))).2.2.2 k) ?_
  show Go p e below _ (T_91.setTop (mkF m 41 #[vR a1, vI 4, vR b77] []))
  refine Go.step (fun _ k => XS.aloadN X_91.here hx rfl (hb hby d_method_3_code_41) rfl rfl k) ?_
  refine Go.step (fun _ k => XS.iconst X_91.here hx rfl (hb hby d_method_3_code_42) k) ?_
  refine Go.step (fun _ k => XS.aloadN X_91.here hx rfl (hb hby d_method_3_code_43) rfl rfl k) ?_
  refine Go.step (fun _ k => XS.iconst X_91.here hx rfl (hb hby d_method_3_code_44) k) ?_
  show Go p e below _ (T_91.setTop (mkF m 45 #[vR a1, vI 4, vR b77] [(.int (3 : Int32)), (.ref a1), (.int (3 : Int32)), (.ref b77)]))
  have f94 : Arv Z h_91 a1 k1 .char (8 : Int32) [(.int c0), (.int c1), (.int c2), (.int c3), (.int c4), (.int c5), (.int c6), (.int c7)] (.int (0 : Int32)) := (f89.other W_91 (Nat.ne_of_lt (Nat.lt_of_lt_of_le A_a1.lt (Nat.le_trans (Nat.le_refl _) ge_77))))
  have cp95 := f94
  obtain ⟨cl_93, Ar_93, -, Sz_93, -, Hs_93, -⟩ := cp95
  have hin_93 : ¬ ((3 : Int32) < 0 ∨ cl_93.slots.size ≤ ((3 : Int32)).toNatClampNeg) := (inb_of Sz_93 ⟨by decide, by decide⟩)
  have hat_93 : cl_93.slots[((3 : Int32)).toNatClampNeg]? = some (.int c3) := (Hs_93.at (inb_of Sz_93 ⟨by decide, by decide⟩) rfl)
  refine Go.step (fun _ k => X_91.caload hx (j := (3 : Int32)) (v := (.int c3)) (by rw [e_91]; exact Ar_93.1) (State.isArrayOf_alike hZ.alike Ar_93.2.1) Ar_93.2.2 hin_93 hat_93 (g := (mkF m 45 #[vR a1, vI 4, vR b77] [(.int (3 : Int32)), (.ref a1), (.int (3 : Int32)), (.ref b77)])) rfl rfl (hb hby d_method_3_code_45) _ k) ?_
  show Go p e below _ (T_91.setTop (mkF m 46 #[vR a1, vI 4, vR b77] [(.int c3), (.int (3 : Int32)), (.ref b77)]))
  have cp97 := V_91
  obtain ⟨cl_96, Ar_96, ck_96, Sz_96, Ng_96, Hs_96, Gs_96⟩ := cp97
  have hin_96 : ¬ ((3 : Int32) < 0 ∨ cl_96.slots.size ≤ ((3 : Int32)).toNatClampNeg) := inb_of Sz_96 ⟨by decide, by decide⟩
  obtain ⟨T_96, h_96, X_96, e_96, W_96, st_96⟩ := stC X_91 hx hZ e_91 Ar_96 (j := (3 : Int32)) hin_96 (g := (mkF m 46 #[vR a1, vI 4, vR b77] [(.int c3), (.int (3 : Int32)), (.ref b77)])) rfl rfl (hb hby d_method_3_code_46)
  refine Go.step st_96 ?_
  have N_96 := Fr.snoc X_96 N_91 g_b77
  have le_96 : h_91.size ≤ h_96.size := Nat.le_of_eq W_96.size.symm
  have KP_96 := KP_91.wr W_96 (Or.inr sz_b77)
  have O_96 := O_91.wr W_96 g_b77
  have V_96 : Arv Z h_96 b77 k_77 .char (4 : Int32) [(.int c0), (.int c1), (.int c2), (.int c3)] (.int (0 : Int32)) := by
    have q := Arv.set Ar_96 ck_96 Sz_96 Ng_96 Hs_96 Gs_96 (fits_nar_char _) W_96 3 rfl (Nat.le_of_ble_eq_true rfl)
    rw [nar_lat l_c3] at q; exact q
  show Go p e below _ (T_96.setTop (mkF m 47 #[vR a1, vI 4, vR b77] []))
  refine Go.step (fun _ k => XS.iloadN X_96.here hx rfl (hb hby d_method_3_code_47) rfl  k) ?_
  refine Go.step (fun _ k => XS.iconst X_96.here hx rfl (hb hby d_method_3_code_48) k) ?_
  show Go p e below _ (T_96.setTop (mkF m 49 #[vR a1, vI 4, vR b77] [(.int (4 : Int32)), (.int (4 : Int32))]))
  refine Go.step (fun _ k => XS.icmpYes X_96.here hx rfl (pc0 := 49) (pc' := 58) rfl (hb hby d_method_3_code_49) rfl (flt ((by decide) : ¬ ((4 : Int32) < (4 : Int32)))).2.2.2 (by decide) (by decide) k) ?_
  show Go p e below _ (T_96.setTop (mkF m 58 #[vR a1, vI 4, vR b77] []))
  refine Go.step (fun _ k => XS.iloadN X_96.here hx rfl (hb hby d_method_3_code_58) rfl  k) ?_
  refine Go.step (fun _ k => XS.iconst X_96.here hx rfl (hb hby d_method_3_code_59) k) ?_
  show Go p e below _ (T_96.setTop (mkF m 60 #[vR a1, vI 4, vR b77] [(.int (5 : Int32)), (.int (4 : Int32))]))
  refine Go.step (fun _ k => XS.icmpYes X_96.here hx rfl (pc0 := 60) (pc' := 69) rfl (hb hby d_method_3_code_60) rfl (flt ((by decide) : ¬ ((5 : Int32) < (4 : Int32)))).2.2.2 (by decide) (by decide) k) ?_
  show Go p e below _ (T_96.setTop (mkF m 69 #[vR a1, vI 4, vR b77] []))
  refine Go.step (fun _ k => XS.iloadN X_96.here hx rfl (hb hby d_method_3_code_69) rfl  k) ?_
  refine Go.step (fun _ k => XS.bipush X_96.here hx rfl (hb hby d_method_3_code_70) k) ?_
  show Go p e below _ (T_96.setTop (mkF m 72 #[vR a1, vI 4, vR b77] [(.int (6 : Int32)), (.int (4 : Int32))]))
  refine Go.step (fun _ k => XS.icmpYes X_96.here hx rfl (pc0 := 72) (pc' := 83) rfl (hb hby d_method_3_code_72) rfl (flt ((by decide) : ¬ ((6 : Int32) < (4 : Int32)))).2.2.2 (by decide) (by decide) k) ?_
  show Go p e below _ (T_96.setTop (mkF m 83 #[vR a1, vI 4, vR b77] []))
  refine Go.step (fun _ k => XS.iloadN X_96.here hx rfl (hb hby d_method_3_code_83) rfl  k) ?_
  refine Go.step (fun _ k => XS.bipush X_96.here hx rfl (hb hby d_method_3_code_84) k) ?_
  show Go p e below _ (T_96.setTop (mkF m 86 #[vR a1, vI 4, vR b77] [(.int (7 : Int32)), (.int (4 : Int32))]))
  refine Go.step (fun _ k => XS.icmpYes X_96.here hx rfl (pc0 := 86) (pc' := 97) rfl (hb hby d_method_3_code_86) rfl (flt ((by decide) : ¬ ((7 : Int32) < (4 : Int32)))).2.2.2 (by decide) (by decide) k) ?_
  show Go p e below _ (T_96.setTop (mkF m 97 #[vR a1, vI 4, vR b77] []))
  refine Go.step (fun _ k => XS.aloadN X_96.here hx rfl (hb hby d_method_3_code_97) rfl rfl k) ?_
  show Go p e below _ (T_96.setTop (mkF m 98 #[vR a1, vI 4, vR b77] [(.ref b77)]))
  exact Go.retV X_96 hx hlk hret rfl (Or.inr (Or.inr (Or.inr (Or.inr ⟨rfl, rfl, rfl⟩)))) (hb hby d_method_3_code_98) (by decide) (by decide) (by rw [e_96]; exact ⟨b77, k_77, rfl, N_96, KP_96, sz_b77, V_96⟩)
--@E
--@C copy5
def Q_copy5 (Z : State) (zc : Int32) (va : Addr) (kv : ClassId) (ea : Addr) (eb : Addr) (wa : Addr) (wb : Addr) (a1 : Addr) (k1 : ClassId) (c0 : Int32) (c1 : Int32) (c2 : Int32) (c3 : Int32) (c4 : Int32) (c5 : Int32) (c6 : Int32) (c7 : Int32) (h0 : Heap) (n0 : Nat) (v : Option Value) (h : Heap) (L : List Loc) : Prop := ∃ (r : Addr) (kr : ClassId), v = some (.ref r) ∧ Fr n0 L ∧ Keep h0 h [] ∧ h0.size ≤ r ∧ Arv Z h r kr .char (5 : Int32) [(.int c0), (.int c1), (.int c2), (.int c3), (.int c4)] (.int (0 : Int32))
set_option maxRecDepth 65536 in
set_option maxHeartbeats 40000000 in
theorem rm_copy5 (l : Launch) (Z : State) (a0 : Array Value) (hw : ∀ d ∈ tables_1, d.before a0 Z = true) (zc : Int32) (va : Addr) (kv : ClassId) (ea : Addr) (eb : Addr) (wa : Addr) (wb : Addr) (a1 : Addr) (k1 : ClassId) (c0 : Int32) (c1 : Int32) (c2 : Int32) (c3 : Int32) (c4 : Int32) (c5 : Int32) (c6 : Int32) (c7 : Int32) (h0 : Heap) (n0 : Nat) (Z0 : n0 ≤ h0.size) (A_a1 : Arv Z h0 a1 k1 .char (8 : Int32) [(.int c0), (.int c1), (.int c2), (.int c3), (.int c4), (.int c5), (.int c6), (.int c7)] (.int (0 : Int32))) (l_c0 : (¬ c0 < 0 ∧ ¬ (255 : Int32) < c0)) (l_c1 : (¬ c1 < 0 ∧ ¬ (255 : Int32) < c1)) (l_c2 : (¬ c2 < 0 ∧ ¬ (255 : Int32) < c2)) (l_c3 : (¬ c3 < 0 ∧ ¬ (255 : Int32) < c3)) (l_c4 : (¬ c4 < 0 ∧ ¬ (255 : Int32) < c4)) (l_c5 : (¬ c5 < 0 ∧ ¬ (255 : Int32) < c5)) (l_c6 : (¬ c6 < 0 ∧ ¬ (255 : Int32) < c6)) (l_c7 : (¬ c7 < 0 ∧ ¬ (255 : Int32) < c7)) (hSt : St Z zc va kv ea eb wa wb) (hO : Old Z n0 h0) :
    CN l Z ({ cls := "com/example/patient_ledger/patientledger/EntryTypeFromWireNamePinLaw", name := "copy", desc := "([CI)[C" } : Jvm.MethodName) [(Jvm.Cond.code ({ cls := "com/example/patient_ledger/patientledger/EntryTypeFromWireNamePinLaw", name := "copy", desc := "([CI)[C" } : Jvm.MethodName) method_3_code (3 : Nat) (Option.some (Jvm.ClassFile.FieldType.array Jvm.ClassFile.FieldType.char)))] ({ frames := 0, cells := 1, slots := 5, locals := 0 } : Room) #[(.ref a1), (.int (5 : Int32))] h0 (Q_copy5 Z zc va kv ea eb wa wb a1 k1 c0 c1 c2 c3 c4 c5 c6 c7 h0 n0) := by
  refine CN.of (L0 := #[vR a1, vI 5, vU]) (plainFor_of_name pn_2) (fun m => by first | (simp [entryFrame, mkF, argsToLocals, Value.category]; done) | rfl) ?_
  intro p e s m below meth c s₁ hx hby hml hret hlk hZ hown hnm X0 e0
  have N0 := Fr.nil n0
  have KP0 := Keep.refl h0 []
  have hSt_ := hSt
  obtain ⟨S_cs, n_cs, S_va, E_va, A_va, S_ea, F_ea, S_wa, S_eb, F_eb, S_wb⟩ := hSt_
  show Go p e below _ (s₁.setTop (mkF m 0 #[vR a1, vI 5, vU] []))
  refine Go.step (fun _ k => XS.iloadN X0.here hx rfl (hb hby d_method_3_code_0) rfl  k) ?_
  show Go p e below _ (s₁.setTop (mkF m 1 #[vR a1, vI 5, vU] [(.int (5 : Int32))]))
  obtain ⟨T_98, h_98, k_98, X_98, e_98, E_98, A_98, st_98⟩ := newP X0 hx hZ (aty := .char) (wd_0 hw) e0 (g := (mkF m 1 #[vR a1, vI 5, vU] [(.int (5 : Int32))])) rfl (hb hby d_method_3_code_1) rfl (by decide) (cap := 5) (by decide) (by decide) (by decide) (by decide)
  obtain ⟨b98, q_98⟩ : ∃ z, z = h0.size := ⟨_, rfl⟩
  rw [← q_98] at A_98 st_98
  refine Go.step st_98 ?_
  have le_98 : h0.size ≤ h_98.size := E_98.1
  have KP_98 := KP0.ext E_98
  have O_98 := hO.ext E_98
  have ge_98 : h0.size ≤ b98 := Nat.le_of_eq q_98.symm
  have sz_b98 : h0.size ≤ b98 := Nat.le_trans (Nat.le_refl _) ge_98
  have g_b98 : n0 ≤ b98 := Nat.le_trans Z0 sz_b98
  have V_98 : Arv Z h_98 b98 k_98 .char (5 : Int32) [(.int (0 : Int32)), (.int (0 : Int32)), (.int (0 : Int32)), (.int (0 : Int32)), (.int (0 : Int32))] (.int (0 : Int32)) := (Arv.new A_98 (by decide)).pad (pad_rep [] (.int (0 : Int32)) 5)
  show Go p e below _ (T_98.setTop (mkF m 3 #[vR a1, vI 5, vU] [(.ref b98)]))
  refine Go.step (fun _ k => XS.astoreN X_98.here hx rfl (hb hby d_method_3_code_3) rfl rfl (l' := #[vR a1, vI 5, vR b98]) rfl k) ?_
  show Go p e below _ (T_98.setTop (mkF m 4 #[vR a1, vI 5, vR b98] []))
  refine Go.step (fun _ k => XS.iloadN X_98.here hx rfl (hb hby d_method_3_code_4) rfl  k) ?_
  show Go p e below _ (T_98.setTop (mkF m 5 #[vR a1, vI 5, vR b98] [(.int (5 : Int32))]))
  refine Go.step (fun _ k => XS.ifNo X_98.here hx rfl (hb hby d_method_3_code_5) rfl ((if0 _ _).trans (tlt ((by decide) : (0 : Int32) < (5 : Int32))).2.2.2) k) ?_
  show Go p e below _ (T_98.setTop (mkF m 8 #[vR a1, vI 5, vR b98] []))
  refine Go.step (fun _ k => XS.aloadN X_98.here hx rfl (hb hby d_method_3_code_8) rfl rfl k) ?_
  refine Go.step (fun _ k => XS.iconst X_98.here hx rfl (hb hby d_method_3_code_9) k) ?_
  refine Go.step (fun _ k => XS.aloadN X_98.here hx rfl (hb hby d_method_3_code_10) rfl rfl k) ?_
  refine Go.step (fun _ k => XS.iconst X_98.here hx rfl (hb hby d_method_3_code_11) k) ?_
  show Go p e below _ (T_98.setTop (mkF m 12 #[vR a1, vI 5, vR b98] [(.int (0 : Int32)), (.ref a1), (.int (0 : Int32)), (.ref b98)]))
  have f100 : Arv Z h_98 a1 k1 .char (8 : Int32) [(.int c0), (.int c1), (.int c2), (.int c3), (.int c4), (.int c5), (.int c6), (.int c7)] (.int (0 : Int32)) := (A_a1.ext E_98)
  have cp101 := f100
  obtain ⟨cl_99, Ar_99, -, Sz_99, -, Hs_99, -⟩ := cp101
  have hin_99 : ¬ ((0 : Int32) < 0 ∨ cl_99.slots.size ≤ ((0 : Int32)).toNatClampNeg) := (inb_of Sz_99 ⟨by decide, by decide⟩)
  have hat_99 : cl_99.slots[((0 : Int32)).toNatClampNeg]? = some (.int c0) := (Hs_99.at (inb_of Sz_99 ⟨by decide, by decide⟩) rfl)
  refine Go.step (fun _ k => X_98.caload hx (j := (0 : Int32)) (v := (.int c0)) (by rw [e_98]; exact Ar_99.1) (State.isArrayOf_alike hZ.alike Ar_99.2.1) Ar_99.2.2 hin_99 hat_99 (g := (mkF m 12 #[vR a1, vI 5, vR b98] [(.int (0 : Int32)), (.ref a1), (.int (0 : Int32)), (.ref b98)])) rfl rfl (hb hby d_method_3_code_12) _ k) ?_
  show Go p e below _ (T_98.setTop (mkF m 13 #[vR a1, vI 5, vR b98] [(.int c0), (.int (0 : Int32)), (.ref b98)]))
  have cp103 := V_98
  obtain ⟨cl_102, Ar_102, ck_102, Sz_102, Ng_102, Hs_102, Gs_102⟩ := cp103
  have hin_102 : ¬ ((0 : Int32) < 0 ∨ cl_102.slots.size ≤ ((0 : Int32)).toNatClampNeg) := inb_of Sz_102 ⟨by decide, by decide⟩
  obtain ⟨T_102, h_102, X_102, e_102, W_102, st_102⟩ := stC X_98 hx hZ e_98 Ar_102 (j := (0 : Int32)) hin_102 (g := (mkF m 13 #[vR a1, vI 5, vR b98] [(.int c0), (.int (0 : Int32)), (.ref b98)])) rfl rfl (hb hby d_method_3_code_13)
  refine Go.step st_102 ?_
  have N_102 := Fr.snoc X_102 N0 g_b98
  have le_102 : h_98.size ≤ h_102.size := Nat.le_of_eq W_102.size.symm
  have KP_102 := KP_98.wr W_102 (Or.inr sz_b98)
  have O_102 := O_98.wr W_102 g_b98
  have V_102 : Arv Z h_102 b98 k_98 .char (5 : Int32) [(.int c0), (.int (0 : Int32)), (.int (0 : Int32)), (.int (0 : Int32)), (.int (0 : Int32))] (.int (0 : Int32)) := by
    have q := Arv.set Ar_102 ck_102 Sz_102 Ng_102 Hs_102 Gs_102 (fits_nar_char _) W_102 0 rfl (Nat.le_of_ble_eq_true rfl)
    rw [nar_lat l_c0] at q; exact q
  show Go p e below _ (T_102.setTop (mkF m 14 #[vR a1, vI 5, vR b98] []))
  refine Go.step (fun _ k => XS.iloadN X_102.here hx rfl (hb hby d_method_3_code_14) rfl  k) ?_
  refine Go.step (fun _ k => XS.iconst X_102.here hx rfl (hb hby d_method_3_code_15) k) ?_
  show Go p e below _ (T_102.setTop (mkF m 16 #[vR a1, vI 5, vR b98] [(.int (1 : Int32)), (.int (5 : Int32))]))
  refine Go.step (fun _ k => XS.icmpNo X_102.here hx rfl (hb hby d_method_3_code_16) rfl (tlt ((by decide) : (1 : Int32) < (5 : Int32))).2.2.2 k) ?_
  show Go p e below _ (T_102.setTop (mkF m 19 #[vR a1, vI 5, vR b98] []))
  refine Go.step (fun _ k => XS.aloadN X_102.here hx rfl (hb hby d_method_3_code_19) rfl rfl k) ?_
  refine Go.step (fun _ k => XS.iconst X_102.here hx rfl (hb hby d_method_3_code_20) k) ?_
  refine Go.step (fun _ k => XS.aloadN X_102.here hx rfl (hb hby d_method_3_code_21) rfl rfl k) ?_
  refine Go.step (fun _ k => XS.iconst X_102.here hx rfl (hb hby d_method_3_code_22) k) ?_
  show Go p e below _ (T_102.setTop (mkF m 23 #[vR a1, vI 5, vR b98] [(.int (1 : Int32)), (.ref a1), (.int (1 : Int32)), (.ref b98)]))
  have f105 : Arv Z h_102 a1 k1 .char (8 : Int32) [(.int c0), (.int c1), (.int c2), (.int c3), (.int c4), (.int c5), (.int c6), (.int c7)] (.int (0 : Int32)) := (f100.other W_102 (Nat.ne_of_lt (Nat.lt_of_lt_of_le A_a1.lt (Nat.le_trans (Nat.le_refl _) ge_98))))
  have cp106 := f105
  obtain ⟨cl_104, Ar_104, -, Sz_104, -, Hs_104, -⟩ := cp106
  have hin_104 : ¬ ((1 : Int32) < 0 ∨ cl_104.slots.size ≤ ((1 : Int32)).toNatClampNeg) := (inb_of Sz_104 ⟨by decide, by decide⟩)
  have hat_104 : cl_104.slots[((1 : Int32)).toNatClampNeg]? = some (.int c1) := (Hs_104.at (inb_of Sz_104 ⟨by decide, by decide⟩) rfl)
  refine Go.step (fun _ k => X_102.caload hx (j := (1 : Int32)) (v := (.int c1)) (by rw [e_102]; exact Ar_104.1) (State.isArrayOf_alike hZ.alike Ar_104.2.1) Ar_104.2.2 hin_104 hat_104 (g := (mkF m 23 #[vR a1, vI 5, vR b98] [(.int (1 : Int32)), (.ref a1), (.int (1 : Int32)), (.ref b98)])) rfl rfl (hb hby d_method_3_code_23) _ k) ?_
  show Go p e below _ (T_102.setTop (mkF m 24 #[vR a1, vI 5, vR b98] [(.int c1), (.int (1 : Int32)), (.ref b98)]))
  have cp108 := V_102
  obtain ⟨cl_107, Ar_107, ck_107, Sz_107, Ng_107, Hs_107, Gs_107⟩ := cp108
  have hin_107 : ¬ ((1 : Int32) < 0 ∨ cl_107.slots.size ≤ ((1 : Int32)).toNatClampNeg) := inb_of Sz_107 ⟨by decide, by decide⟩
  obtain ⟨T_107, h_107, X_107, e_107, W_107, st_107⟩ := stC X_102 hx hZ e_102 Ar_107 (j := (1 : Int32)) hin_107 (g := (mkF m 24 #[vR a1, vI 5, vR b98] [(.int c1), (.int (1 : Int32)), (.ref b98)])) rfl rfl (hb hby d_method_3_code_24)
  refine Go.step st_107 ?_
  have N_107 := Fr.snoc X_107 N_102 g_b98
  have le_107 : h_102.size ≤ h_107.size := Nat.le_of_eq W_107.size.symm
  have KP_107 := KP_102.wr W_107 (Or.inr sz_b98)
  have O_107 := O_102.wr W_107 g_b98
  have V_107 : Arv Z h_107 b98 k_98 .char (5 : Int32) [(.int c0), (.int c1), (.int (0 : Int32)), (.int (0 : Int32)), (.int (0 : Int32))] (.int (0 : Int32)) := by
    have q := Arv.set Ar_107 ck_107 Sz_107 Ng_107 Hs_107 Gs_107 (fits_nar_char _) W_107 1 rfl (Nat.le_of_ble_eq_true rfl)
    rw [nar_lat l_c1] at q; exact q
  show Go p e below _ (T_107.setTop (mkF m 25 #[vR a1, vI 5, vR b98] []))
  refine Go.step (fun _ k => XS.iloadN X_107.here hx rfl (hb hby d_method_3_code_25) rfl  k) ?_
  refine Go.step (fun _ k => XS.iconst X_107.here hx rfl (hb hby d_method_3_code_26) k) ?_
  show Go p e below _ (T_107.setTop (mkF m 27 #[vR a1, vI 5, vR b98] [(.int (2 : Int32)), (.int (5 : Int32))]))
  refine Go.step (fun _ k => XS.icmpNo X_107.here hx rfl (hb hby d_method_3_code_27) rfl (tlt ((by decide) : (2 : Int32) < (5 : Int32))).2.2.2 k) ?_
  show Go p e below _ (T_107.setTop (mkF m 30 #[vR a1, vI 5, vR b98] []))
  refine Go.step (fun _ k => XS.aloadN X_107.here hx rfl (hb hby d_method_3_code_30) rfl rfl k) ?_
  refine Go.step (fun _ k => XS.iconst X_107.here hx rfl (hb hby d_method_3_code_31) k) ?_
  refine Go.step (fun _ k => XS.aloadN X_107.here hx rfl (hb hby d_method_3_code_32) rfl rfl k) ?_
  refine Go.step (fun _ k => XS.iconst X_107.here hx rfl (hb hby d_method_3_code_33) k) ?_
  show Go p e below _ (T_107.setTop (mkF m 34 #[vR a1, vI 5, vR b98] [(.int (2 : Int32)), (.ref a1), (.int (2 : Int32)), (.ref b98)]))
  have f110 : Arv Z h_107 a1 k1 .char (8 : Int32) [(.int c0), (.int c1), (.int c2), (.int c3), (.int c4), (.int c5), (.int c6), (.int c7)] (.int (0 : Int32)) := (f105.other W_107 (Nat.ne_of_lt (Nat.lt_of_lt_of_le A_a1.lt (Nat.le_trans (Nat.le_refl _) ge_98))))
  have cp111 := f110
  obtain ⟨cl_109, Ar_109, -, Sz_109, -, Hs_109, -⟩ := cp111
  have hin_109 : ¬ ((2 : Int32) < 0 ∨ cl_109.slots.size ≤ ((2 : Int32)).toNatClampNeg) := (inb_of Sz_109 ⟨by decide, by decide⟩)
  have hat_109 : cl_109.slots[((2 : Int32)).toNatClampNeg]? = some (.int c2) := (Hs_109.at (inb_of Sz_109 ⟨by decide, by decide⟩) rfl)
  refine Go.step (fun _ k => X_107.caload hx (j := (2 : Int32)) (v := (.int c2)) (by rw [e_107]; exact Ar_109.1) (State.isArrayOf_alike hZ.alike Ar_109.2.1) Ar_109.2.2 hin_109 hat_109 (g := (mkF m 34 #[vR a1, vI 5, vR b98] [(.int (2 : Int32)), (.ref a1), (.int (2 : Int32)), (.ref b98)])) rfl rfl (hb hby d_method_3_code_34) _ k) ?_
  show Go p e below _ (T_107.setTop (mkF m 35 #[vR a1, vI 5, vR b98] [(.int c2), (.int (2 : Int32)), (.ref b98)]))
  have cp113 := V_107
  obtain ⟨cl_112, Ar_112, ck_112, Sz_112, Ng_112, Hs_112, Gs_112⟩ := cp113
  have hin_112 : ¬ ((2 : Int32) < 0 ∨ cl_112.slots.size ≤ ((2 : Int32)).toNatClampNeg) := inb_of Sz_112 ⟨by decide, by decide⟩
  obtain ⟨T_112, h_112, X_112, e_112, W_112, st_112⟩ := stC X_107 hx hZ e_107 Ar_112 (j := (2 : Int32)) hin_112 (g := (mkF m 35 #[vR a1, vI 5, vR b98] [(.int c2), (.int (2 : Int32)), (.ref b98)])) rfl rfl (hb hby d_method_3_code_35)
  refine Go.step st_112 ?_
  have N_112 := Fr.snoc X_112 N_107 g_b98
  have le_112 : h_107.size ≤ h_112.size := Nat.le_of_eq W_112.size.symm
  have KP_112 := KP_107.wr W_112 (Or.inr sz_b98)
  have O_112 := O_107.wr W_112 g_b98
  have V_112 : Arv Z h_112 b98 k_98 .char (5 : Int32) [(.int c0), (.int c1), (.int c2), (.int (0 : Int32)), (.int (0 : Int32))] (.int (0 : Int32)) := by
    have q := Arv.set Ar_112 ck_112 Sz_112 Ng_112 Hs_112 Gs_112 (fits_nar_char _) W_112 2 rfl (Nat.le_of_ble_eq_true rfl)
    rw [nar_lat l_c2] at q; exact q
  show Go p e below _ (T_112.setTop (mkF m 36 #[vR a1, vI 5, vR b98] []))
  refine Go.step (fun _ k => XS.iloadN X_112.here hx rfl (hb hby d_method_3_code_36) rfl  k) ?_
  refine Go.step (fun _ k => XS.iconst X_112.here hx rfl (hb hby d_method_3_code_37) k) ?_
  show Go p e below _ (T_112.setTop (mkF m 38 #[vR a1, vI 5, vR b98] [(.int (3 : Int32)), (.int (5 : Int32))]))
  refine Go.step (fun _ k => XS.icmpNo X_112.here hx rfl (hb hby d_method_3_code_38) rfl (tlt ((by decide) : (3 : Int32) < (5 : Int32))).2.2.2 k) ?_
  show Go p e below _ (T_112.setTop (mkF m 41 #[vR a1, vI 5, vR b98] []))
  refine Go.step (fun _ k => XS.aloadN X_112.here hx rfl (hb hby d_method_3_code_41) rfl rfl k) ?_
  refine Go.step (fun _ k => XS.iconst X_112.here hx rfl (hb hby d_method_3_code_42) k) ?_
  refine Go.step (fun _ k => XS.aloadN X_112.here hx rfl (hb hby d_method_3_code_43) rfl rfl k) ?_
  refine Go.step (fun _ k => XS.iconst X_112.here hx rfl (hb hby d_method_3_code_44) k) ?_
  show Go p e below _ (T_112.setTop (mkF m 45 #[vR a1, vI 5, vR b98] [(.int (3 : Int32)), (.ref a1), (.int (3 : Int32)), (.ref b98)]))
  have f115 : Arv Z h_112 a1 k1 .char (8 : Int32) [(.int c0), (.int c1), (.int c2), (.int c3), (.int c4), (.int c5), (.int c6), (.int c7)] (.int (0 : Int32)) := (f110.other W_112 (Nat.ne_of_lt (Nat.lt_of_lt_of_le A_a1.lt (Nat.le_trans (Nat.le_refl _) ge_98))))
  have cp116 := f115
  obtain ⟨cl_114, Ar_114, -, Sz_114, -, Hs_114, -⟩ := cp116
  have hin_114 : ¬ ((3 : Int32) < 0 ∨ cl_114.slots.size ≤ ((3 : Int32)).toNatClampNeg) := (inb_of Sz_114 ⟨by decide, by decide⟩)
  have hat_114 : cl_114.slots[((3 : Int32)).toNatClampNeg]? = some (.int c3) := (Hs_114.at (inb_of Sz_114 ⟨by decide, by decide⟩) rfl)
  refine Go.step (fun _ k => X_112.caload hx (j := (3 : Int32)) (v := (.int c3)) (by rw [e_112]; exact Ar_114.1) (State.isArrayOf_alike hZ.alike Ar_114.2.1) Ar_114.2.2 hin_114 hat_114 (g := (mkF m 45 #[vR a1, vI 5, vR b98] [(.int (3 : Int32)), (.ref a1), (.int (3 : Int32)), (.ref b98)])) rfl rfl (hb hby d_method_3_code_45) _ k) ?_
  show Go p e below _ (T_112.setTop (mkF m 46 #[vR a1, vI 5, vR b98] [(.int c3), (.int (3 : Int32)), (.ref b98)]))
  have cp118 := V_112
  obtain ⟨cl_117, Ar_117, ck_117, Sz_117, Ng_117, Hs_117, Gs_117⟩ := cp118
  have hin_117 : ¬ ((3 : Int32) < 0 ∨ cl_117.slots.size ≤ ((3 : Int32)).toNatClampNeg) := inb_of Sz_117 ⟨by decide, by decide⟩
  obtain ⟨T_117, h_117, X_117, e_117, W_117, st_117⟩ := stC X_112 hx hZ e_112 Ar_117 (j := (3 : Int32)) hin_117 (g := (mkF m 46 #[vR a1, vI 5, vR b98] [(.int c3), (.int (3 : Int32)), (.ref b98)])) rfl rfl (hb hby d_method_3_code_46)
  refine Go.step st_117 ?_
  have N_117 := Fr.snoc X_117 N_112 g_b98
  have le_117 : h_112.size ≤ h_117.size := Nat.le_of_eq W_117.size.symm
  have KP_117 := KP_112.wr W_117 (Or.inr sz_b98)
  have O_117 := O_112.wr W_117 g_b98
  have V_117 : Arv Z h_117 b98 k_98 .char (5 : Int32) [(.int c0), (.int c1), (.int c2), (.int c3), (.int (0 : Int32))] (.int (0 : Int32)) := by
    have q := Arv.set Ar_117 ck_117 Sz_117 Ng_117 Hs_117 Gs_117 (fits_nar_char _) W_117 3 rfl (Nat.le_of_ble_eq_true rfl)
    rw [nar_lat l_c3] at q; exact q
  show Go p e below _ (T_117.setTop (mkF m 47 #[vR a1, vI 5, vR b98] []))
  refine Go.step (fun _ k => XS.iloadN X_117.here hx rfl (hb hby d_method_3_code_47) rfl  k) ?_
  refine Go.step (fun _ k => XS.iconst X_117.here hx rfl (hb hby d_method_3_code_48) k) ?_
  show Go p e below _ (T_117.setTop (mkF m 49 #[vR a1, vI 5, vR b98] [(.int (4 : Int32)), (.int (5 : Int32))]))
  refine Go.step (fun _ k => XS.icmpNo X_117.here hx rfl (hb hby d_method_3_code_49) rfl (tlt ((by decide) : (4 : Int32) < (5 : Int32))).2.2.2 k) ?_
  show Go p e below _ (T_117.setTop (mkF m 52 #[vR a1, vI 5, vR b98] []))
  refine Go.step (fun _ k => XS.aloadN X_117.here hx rfl (hb hby d_method_3_code_52) rfl rfl k) ?_
  refine Go.step (fun _ k => XS.iconst X_117.here hx rfl (hb hby d_method_3_code_53) k) ?_
  refine Go.step (fun _ k => XS.aloadN X_117.here hx rfl (hb hby d_method_3_code_54) rfl rfl k) ?_
  refine Go.step (fun _ k => XS.iconst X_117.here hx rfl (hb hby d_method_3_code_55) k) ?_
  show Go p e below _ (T_117.setTop (mkF m 56 #[vR a1, vI 5, vR b98] [(.int (4 : Int32)), (.ref a1), (.int (4 : Int32)), (.ref b98)]))
  have f120 : Arv Z h_117 a1 k1 .char (8 : Int32) [(.int c0), (.int c1), (.int c2), (.int c3), (.int c4), (.int c5), (.int c6), (.int c7)] (.int (0 : Int32)) := (f115.other W_117 (Nat.ne_of_lt (Nat.lt_of_lt_of_le A_a1.lt (Nat.le_trans (Nat.le_refl _) ge_98))))
  have cp121 := f120
  obtain ⟨cl_119, Ar_119, -, Sz_119, -, Hs_119, -⟩ := cp121
  have hin_119 : ¬ ((4 : Int32) < 0 ∨ cl_119.slots.size ≤ ((4 : Int32)).toNatClampNeg) := (inb_of Sz_119 ⟨by decide, by decide⟩)
  have hat_119 : cl_119.slots[((4 : Int32)).toNatClampNeg]? = some (.int c4) := (Hs_119.at (inb_of Sz_119 ⟨by decide, by decide⟩) rfl)
  refine Go.step (fun _ k => X_117.caload hx (j := (4 : Int32)) (v := (.int c4)) (by rw [e_117]; exact Ar_119.1) (State.isArrayOf_alike hZ.alike Ar_119.2.1) Ar_119.2.2 hin_119 hat_119 (g := (mkF m 56 #[vR a1, vI 5, vR b98] [(.int (4 : Int32)), (.ref a1), (.int (4 : Int32)), (.ref b98)])) rfl rfl (hb hby d_method_3_code_56) _ k) ?_
  show Go p e below _ (T_117.setTop (mkF m 57 #[vR a1, vI 5, vR b98] [(.int c4), (.int (4 : Int32)), (.ref b98)]))
  have cp123 := V_117
  obtain ⟨cl_122, Ar_122, ck_122, Sz_122, Ng_122, Hs_122, Gs_122⟩ := cp123
  have hin_122 : ¬ ((4 : Int32) < 0 ∨ cl_122.slots.size ≤ ((4 : Int32)).toNatClampNeg) := inb_of Sz_122 ⟨by decide, by decide⟩
  obtain ⟨T_122, h_122, X_122, e_122, W_122, st_122⟩ := stC X_117 hx hZ e_117 Ar_122 (j := (4 : Int32)) hin_122 (g := (mkF m 57 #[vR a1, vI 5, vR b98] [(.int c4), (.int (4 : Int32)), (.ref b98)])) rfl rfl (hb hby d_method_3_code_57)
  refine Go.step st_122 ?_
  have N_122 := Fr.snoc X_122 N_117 g_b98
  have le_122 : h_117.size ≤ h_122.size := Nat.le_of_eq W_122.size.symm
  have KP_122 := KP_117.wr W_122 (Or.inr sz_b98)
  have O_122 := O_117.wr W_122 g_b98
  have V_122 : Arv Z h_122 b98 k_98 .char (5 : Int32) [(.int c0), (.int c1), (.int c2), (.int c3), (.int c4)] (.int (0 : Int32)) := by
    have q := Arv.set Ar_122 ck_122 Sz_122 Ng_122 Hs_122 Gs_122 (fits_nar_char _) W_122 4 rfl (Nat.le_of_ble_eq_true rfl)
    rw [nar_lat l_c4] at q; exact q
  show Go p e below _ (T_122.setTop (mkF m 58 #[vR a1, vI 5, vR b98] []))
  refine Go.step (fun _ k => XS.iloadN X_122.here hx rfl (hb hby d_method_3_code_58) rfl  k) ?_
  refine Go.step (fun _ k => XS.iconst X_122.here hx rfl (hb hby d_method_3_code_59) k) ?_
  show Go p e below _ (T_122.setTop (mkF m 60 #[vR a1, vI 5, vR b98] [(.int (5 : Int32)), (.int (5 : Int32))]))
  refine Go.step (fun _ k => XS.icmpYes X_122.here hx rfl (pc0 := 60) (pc' := 69) rfl (hb hby d_method_3_code_60) rfl (flt ((by decide) : ¬ ((5 : Int32) < (5 : Int32)))).2.2.2 (by decide) (by decide) k) ?_
  show Go p e below _ (T_122.setTop (mkF m 69 #[vR a1, vI 5, vR b98] []))
  refine Go.step (fun _ k => XS.iloadN X_122.here hx rfl (hb hby d_method_3_code_69) rfl  k) ?_
  refine Go.step (fun _ k => XS.bipush X_122.here hx rfl (hb hby d_method_3_code_70) k) ?_
  show Go p e below _ (T_122.setTop (mkF m 72 #[vR a1, vI 5, vR b98] [(.int (6 : Int32)), (.int (5 : Int32))]))
  refine Go.step (fun _ k => XS.icmpYes X_122.here hx rfl (pc0 := 72) (pc' := 83) rfl (hb hby d_method_3_code_72) rfl (flt ((by decide) : ¬ ((6 : Int32) < (5 : Int32)))).2.2.2 (by decide) (by decide) k) ?_
  show Go p e below _ (T_122.setTop (mkF m 83 #[vR a1, vI 5, vR b98] []))
  refine Go.step (fun _ k => XS.iloadN X_122.here hx rfl (hb hby d_method_3_code_83) rfl  k) ?_
  refine Go.step (fun _ k => XS.bipush X_122.here hx rfl (hb hby d_method_3_code_84) k) ?_
  show Go p e below _ (T_122.setTop (mkF m 86 #[vR a1, vI 5, vR b98] [(.int (7 : Int32)), (.int (5 : Int32))]))
  refine Go.step (fun _ k => XS.icmpYes X_122.here hx rfl (pc0 := 86) (pc' := 97) rfl (hb hby d_method_3_code_86) rfl (flt ((by decide) : ¬ ((7 : Int32) < (5 : Int32)))).2.2.2 (by decide) (by decide) k) ?_
  show Go p e below _ (T_122.setTop (mkF m 97 #[vR a1, vI 5, vR b98] []))
  refine Go.step (fun _ k => XS.aloadN X_122.here hx rfl (hb hby d_method_3_code_97) rfl rfl k) ?_
  show Go p e below _ (T_122.setTop (mkF m 98 #[vR a1, vI 5, vR b98] [(.ref b98)]))
  exact Go.retV X_122 hx hlk hret rfl (Or.inr (Or.inr (Or.inr (Or.inr ⟨rfl, rfl, rfl⟩)))) (hb hby d_method_3_code_98) (by decide) (by decide) (by rw [e_122]; exact ⟨b98, k_98, rfl, N_122, KP_122, sz_b98, V_122⟩)
--@E
--@C copy6
def Q_copy6 (Z : State) (zc : Int32) (va : Addr) (kv : ClassId) (ea : Addr) (eb : Addr) (wa : Addr) (wb : Addr) (a1 : Addr) (k1 : ClassId) (c0 : Int32) (c1 : Int32) (c2 : Int32) (c3 : Int32) (c4 : Int32) (c5 : Int32) (c6 : Int32) (c7 : Int32) (h0 : Heap) (n0 : Nat) (v : Option Value) (h : Heap) (L : List Loc) : Prop := ∃ (r : Addr) (kr : ClassId), v = some (.ref r) ∧ Fr n0 L ∧ Keep h0 h [] ∧ h0.size ≤ r ∧ Arv Z h r kr .char (6 : Int32) [(.int c0), (.int c1), (.int c2), (.int c3), (.int c4), (.int c5)] (.int (0 : Int32))
set_option maxRecDepth 65536 in
set_option maxHeartbeats 40000000 in
theorem rm_copy6 (l : Launch) (Z : State) (a0 : Array Value) (hw : ∀ d ∈ tables_1, d.before a0 Z = true) (zc : Int32) (va : Addr) (kv : ClassId) (ea : Addr) (eb : Addr) (wa : Addr) (wb : Addr) (a1 : Addr) (k1 : ClassId) (c0 : Int32) (c1 : Int32) (c2 : Int32) (c3 : Int32) (c4 : Int32) (c5 : Int32) (c6 : Int32) (c7 : Int32) (h0 : Heap) (n0 : Nat) (Z0 : n0 ≤ h0.size) (A_a1 : Arv Z h0 a1 k1 .char (8 : Int32) [(.int c0), (.int c1), (.int c2), (.int c3), (.int c4), (.int c5), (.int c6), (.int c7)] (.int (0 : Int32))) (l_c0 : (¬ c0 < 0 ∧ ¬ (255 : Int32) < c0)) (l_c1 : (¬ c1 < 0 ∧ ¬ (255 : Int32) < c1)) (l_c2 : (¬ c2 < 0 ∧ ¬ (255 : Int32) < c2)) (l_c3 : (¬ c3 < 0 ∧ ¬ (255 : Int32) < c3)) (l_c4 : (¬ c4 < 0 ∧ ¬ (255 : Int32) < c4)) (l_c5 : (¬ c5 < 0 ∧ ¬ (255 : Int32) < c5)) (l_c6 : (¬ c6 < 0 ∧ ¬ (255 : Int32) < c6)) (l_c7 : (¬ c7 < 0 ∧ ¬ (255 : Int32) < c7)) (hSt : St Z zc va kv ea eb wa wb) (hO : Old Z n0 h0) :
    CN l Z ({ cls := "com/example/patient_ledger/patientledger/EntryTypeFromWireNamePinLaw", name := "copy", desc := "([CI)[C" } : Jvm.MethodName) [(Jvm.Cond.code ({ cls := "com/example/patient_ledger/patientledger/EntryTypeFromWireNamePinLaw", name := "copy", desc := "([CI)[C" } : Jvm.MethodName) method_3_code (3 : Nat) (Option.some (Jvm.ClassFile.FieldType.array Jvm.ClassFile.FieldType.char)))] ({ frames := 0, cells := 1, slots := 6, locals := 0 } : Room) #[(.ref a1), (.int (6 : Int32))] h0 (Q_copy6 Z zc va kv ea eb wa wb a1 k1 c0 c1 c2 c3 c4 c5 c6 c7 h0 n0) := by
  refine CN.of (L0 := #[vR a1, vI 6, vU]) (plainFor_of_name pn_2) (fun m => by first | (simp [entryFrame, mkF, argsToLocals, Value.category]; done) | rfl) ?_
  intro p e s m below meth c s₁ hx hby hml hret hlk hZ hown hnm X0 e0
  have N0 := Fr.nil n0
  have KP0 := Keep.refl h0 []
  have hSt_ := hSt
  obtain ⟨S_cs, n_cs, S_va, E_va, A_va, S_ea, F_ea, S_wa, S_eb, F_eb, S_wb⟩ := hSt_
  show Go p e below _ (s₁.setTop (mkF m 0 #[vR a1, vI 6, vU] []))
  refine Go.step (fun _ k => XS.iloadN X0.here hx rfl (hb hby d_method_3_code_0) rfl  k) ?_
  show Go p e below _ (s₁.setTop (mkF m 1 #[vR a1, vI 6, vU] [(.int (6 : Int32))]))
  obtain ⟨T_124, h_124, k_124, X_124, e_124, E_124, A_124, st_124⟩ := newP X0 hx hZ (aty := .char) (wd_0 hw) e0 (g := (mkF m 1 #[vR a1, vI 6, vU] [(.int (6 : Int32))])) rfl (hb hby d_method_3_code_1) rfl (by decide) (cap := 6) (by decide) (by decide) (by decide) (by decide)
  obtain ⟨b124, q_124⟩ : ∃ z, z = h0.size := ⟨_, rfl⟩
  rw [← q_124] at A_124 st_124
  refine Go.step st_124 ?_
  have le_124 : h0.size ≤ h_124.size := E_124.1
  have KP_124 := KP0.ext E_124
  have O_124 := hO.ext E_124
  have ge_124 : h0.size ≤ b124 := Nat.le_of_eq q_124.symm
  have sz_b124 : h0.size ≤ b124 := Nat.le_trans (Nat.le_refl _) ge_124
  have g_b124 : n0 ≤ b124 := Nat.le_trans Z0 sz_b124
  have V_124 : Arv Z h_124 b124 k_124 .char (6 : Int32) [(.int (0 : Int32)), (.int (0 : Int32)), (.int (0 : Int32)), (.int (0 : Int32)), (.int (0 : Int32)), (.int (0 : Int32))] (.int (0 : Int32)) := (Arv.new A_124 (by decide)).pad (pad_rep [] (.int (0 : Int32)) 6)
  show Go p e below _ (T_124.setTop (mkF m 3 #[vR a1, vI 6, vU] [(.ref b124)]))
  refine Go.step (fun _ k => XS.astoreN X_124.here hx rfl (hb hby d_method_3_code_3) rfl rfl (l' := #[vR a1, vI 6, vR b124]) rfl k) ?_
  show Go p e below _ (T_124.setTop (mkF m 4 #[vR a1, vI 6, vR b124] []))
  refine Go.step (fun _ k => XS.iloadN X_124.here hx rfl (hb hby d_method_3_code_4) rfl  k) ?_
  show Go p e below _ (T_124.setTop (mkF m 5 #[vR a1, vI 6, vR b124] [(.int (6 : Int32))]))
  refine Go.step (fun _ k => XS.ifNo X_124.here hx rfl (hb hby d_method_3_code_5) rfl ((if0 _ _).trans (tlt ((by decide) : (0 : Int32) < (6 : Int32))).2.2.2) k) ?_
  show Go p e below _ (T_124.setTop (mkF m 8 #[vR a1, vI 6, vR b124] []))
  refine Go.step (fun _ k => XS.aloadN X_124.here hx rfl (hb hby d_method_3_code_8) rfl rfl k) ?_
  refine Go.step (fun _ k => XS.iconst X_124.here hx rfl (hb hby d_method_3_code_9) k) ?_
  refine Go.step (fun _ k => XS.aloadN X_124.here hx rfl (hb hby d_method_3_code_10) rfl rfl k) ?_
  refine Go.step (fun _ k => XS.iconst X_124.here hx rfl (hb hby d_method_3_code_11) k) ?_
  show Go p e below _ (T_124.setTop (mkF m 12 #[vR a1, vI 6, vR b124] [(.int (0 : Int32)), (.ref a1), (.int (0 : Int32)), (.ref b124)]))
  have f126 : Arv Z h_124 a1 k1 .char (8 : Int32) [(.int c0), (.int c1), (.int c2), (.int c3), (.int c4), (.int c5), (.int c6), (.int c7)] (.int (0 : Int32)) := (A_a1.ext E_124)
  have cp127 := f126
  obtain ⟨cl_125, Ar_125, -, Sz_125, -, Hs_125, -⟩ := cp127
  have hin_125 : ¬ ((0 : Int32) < 0 ∨ cl_125.slots.size ≤ ((0 : Int32)).toNatClampNeg) := (inb_of Sz_125 ⟨by decide, by decide⟩)
  have hat_125 : cl_125.slots[((0 : Int32)).toNatClampNeg]? = some (.int c0) := (Hs_125.at (inb_of Sz_125 ⟨by decide, by decide⟩) rfl)
  refine Go.step (fun _ k => X_124.caload hx (j := (0 : Int32)) (v := (.int c0)) (by rw [e_124]; exact Ar_125.1) (State.isArrayOf_alike hZ.alike Ar_125.2.1) Ar_125.2.2 hin_125 hat_125 (g := (mkF m 12 #[vR a1, vI 6, vR b124] [(.int (0 : Int32)), (.ref a1), (.int (0 : Int32)), (.ref b124)])) rfl rfl (hb hby d_method_3_code_12) _ k) ?_
  show Go p e below _ (T_124.setTop (mkF m 13 #[vR a1, vI 6, vR b124] [(.int c0), (.int (0 : Int32)), (.ref b124)]))
  have cp129 := V_124
  obtain ⟨cl_128, Ar_128, ck_128, Sz_128, Ng_128, Hs_128, Gs_128⟩ := cp129
  have hin_128 : ¬ ((0 : Int32) < 0 ∨ cl_128.slots.size ≤ ((0 : Int32)).toNatClampNeg) := inb_of Sz_128 ⟨by decide, by decide⟩
  obtain ⟨T_128, h_128, X_128, e_128, W_128, st_128⟩ := stC X_124 hx hZ e_124 Ar_128 (j := (0 : Int32)) hin_128 (g := (mkF m 13 #[vR a1, vI 6, vR b124] [(.int c0), (.int (0 : Int32)), (.ref b124)])) rfl rfl (hb hby d_method_3_code_13)
  refine Go.step st_128 ?_
  have N_128 := Fr.snoc X_128 N0 g_b124
  have le_128 : h_124.size ≤ h_128.size := Nat.le_of_eq W_128.size.symm
  have KP_128 := KP_124.wr W_128 (Or.inr sz_b124)
  have O_128 := O_124.wr W_128 g_b124
  have V_128 : Arv Z h_128 b124 k_124 .char (6 : Int32) [(.int c0), (.int (0 : Int32)), (.int (0 : Int32)), (.int (0 : Int32)), (.int (0 : Int32)), (.int (0 : Int32))] (.int (0 : Int32)) := by
    have q := Arv.set Ar_128 ck_128 Sz_128 Ng_128 Hs_128 Gs_128 (fits_nar_char _) W_128 0 rfl (Nat.le_of_ble_eq_true rfl)
    rw [nar_lat l_c0] at q; exact q
  show Go p e below _ (T_128.setTop (mkF m 14 #[vR a1, vI 6, vR b124] []))
  refine Go.step (fun _ k => XS.iloadN X_128.here hx rfl (hb hby d_method_3_code_14) rfl  k) ?_
  refine Go.step (fun _ k => XS.iconst X_128.here hx rfl (hb hby d_method_3_code_15) k) ?_
  show Go p e below _ (T_128.setTop (mkF m 16 #[vR a1, vI 6, vR b124] [(.int (1 : Int32)), (.int (6 : Int32))]))
  refine Go.step (fun _ k => XS.icmpNo X_128.here hx rfl (hb hby d_method_3_code_16) rfl (tlt ((by decide) : (1 : Int32) < (6 : Int32))).2.2.2 k) ?_
  show Go p e below _ (T_128.setTop (mkF m 19 #[vR a1, vI 6, vR b124] []))
  refine Go.step (fun _ k => XS.aloadN X_128.here hx rfl (hb hby d_method_3_code_19) rfl rfl k) ?_
  refine Go.step (fun _ k => XS.iconst X_128.here hx rfl (hb hby d_method_3_code_20) k) ?_
  refine Go.step (fun _ k => XS.aloadN X_128.here hx rfl (hb hby d_method_3_code_21) rfl rfl k) ?_
  refine Go.step (fun _ k => XS.iconst X_128.here hx rfl (hb hby d_method_3_code_22) k) ?_
  show Go p e below _ (T_128.setTop (mkF m 23 #[vR a1, vI 6, vR b124] [(.int (1 : Int32)), (.ref a1), (.int (1 : Int32)), (.ref b124)]))
  have f131 : Arv Z h_128 a1 k1 .char (8 : Int32) [(.int c0), (.int c1), (.int c2), (.int c3), (.int c4), (.int c5), (.int c6), (.int c7)] (.int (0 : Int32)) := (f126.other W_128 (Nat.ne_of_lt (Nat.lt_of_lt_of_le A_a1.lt (Nat.le_trans (Nat.le_refl _) ge_124))))
  have cp132 := f131
  obtain ⟨cl_130, Ar_130, -, Sz_130, -, Hs_130, -⟩ := cp132
  have hin_130 : ¬ ((1 : Int32) < 0 ∨ cl_130.slots.size ≤ ((1 : Int32)).toNatClampNeg) := (inb_of Sz_130 ⟨by decide, by decide⟩)
  have hat_130 : cl_130.slots[((1 : Int32)).toNatClampNeg]? = some (.int c1) := (Hs_130.at (inb_of Sz_130 ⟨by decide, by decide⟩) rfl)
  refine Go.step (fun _ k => X_128.caload hx (j := (1 : Int32)) (v := (.int c1)) (by rw [e_128]; exact Ar_130.1) (State.isArrayOf_alike hZ.alike Ar_130.2.1) Ar_130.2.2 hin_130 hat_130 (g := (mkF m 23 #[vR a1, vI 6, vR b124] [(.int (1 : Int32)), (.ref a1), (.int (1 : Int32)), (.ref b124)])) rfl rfl (hb hby d_method_3_code_23) _ k) ?_
  show Go p e below _ (T_128.setTop (mkF m 24 #[vR a1, vI 6, vR b124] [(.int c1), (.int (1 : Int32)), (.ref b124)]))
  have cp134 := V_128
  obtain ⟨cl_133, Ar_133, ck_133, Sz_133, Ng_133, Hs_133, Gs_133⟩ := cp134
  have hin_133 : ¬ ((1 : Int32) < 0 ∨ cl_133.slots.size ≤ ((1 : Int32)).toNatClampNeg) := inb_of Sz_133 ⟨by decide, by decide⟩
  obtain ⟨T_133, h_133, X_133, e_133, W_133, st_133⟩ := stC X_128 hx hZ e_128 Ar_133 (j := (1 : Int32)) hin_133 (g := (mkF m 24 #[vR a1, vI 6, vR b124] [(.int c1), (.int (1 : Int32)), (.ref b124)])) rfl rfl (hb hby d_method_3_code_24)
  refine Go.step st_133 ?_
  have N_133 := Fr.snoc X_133 N_128 g_b124
  have le_133 : h_128.size ≤ h_133.size := Nat.le_of_eq W_133.size.symm
  have KP_133 := KP_128.wr W_133 (Or.inr sz_b124)
  have O_133 := O_128.wr W_133 g_b124
  have V_133 : Arv Z h_133 b124 k_124 .char (6 : Int32) [(.int c0), (.int c1), (.int (0 : Int32)), (.int (0 : Int32)), (.int (0 : Int32)), (.int (0 : Int32))] (.int (0 : Int32)) := by
    have q := Arv.set Ar_133 ck_133 Sz_133 Ng_133 Hs_133 Gs_133 (fits_nar_char _) W_133 1 rfl (Nat.le_of_ble_eq_true rfl)
    rw [nar_lat l_c1] at q; exact q
  show Go p e below _ (T_133.setTop (mkF m 25 #[vR a1, vI 6, vR b124] []))
  refine Go.step (fun _ k => XS.iloadN X_133.here hx rfl (hb hby d_method_3_code_25) rfl  k) ?_
  refine Go.step (fun _ k => XS.iconst X_133.here hx rfl (hb hby d_method_3_code_26) k) ?_
  show Go p e below _ (T_133.setTop (mkF m 27 #[vR a1, vI 6, vR b124] [(.int (2 : Int32)), (.int (6 : Int32))]))
  refine Go.step (fun _ k => XS.icmpNo X_133.here hx rfl (hb hby d_method_3_code_27) rfl (tlt ((by decide) : (2 : Int32) < (6 : Int32))).2.2.2 k) ?_
  show Go p e below _ (T_133.setTop (mkF m 30 #[vR a1, vI 6, vR b124] []))
  refine Go.step (fun _ k => XS.aloadN X_133.here hx rfl (hb hby d_method_3_code_30) rfl rfl k) ?_
  refine Go.step (fun _ k => XS.iconst X_133.here hx rfl (hb hby d_method_3_code_31) k) ?_
  refine Go.step (fun _ k => XS.aloadN X_133.here hx rfl (hb hby d_method_3_code_32) rfl rfl k) ?_
  refine Go.step (fun _ k => XS.iconst X_133.here hx rfl (hb hby d_method_3_code_33) k) ?_
  show Go p e below _ (T_133.setTop (mkF m 34 #[vR a1, vI 6, vR b124] [(.int (2 : Int32)), (.ref a1), (.int (2 : Int32)), (.ref b124)]))
  have f136 : Arv Z h_133 a1 k1 .char (8 : Int32) [(.int c0), (.int c1), (.int c2), (.int c3), (.int c4), (.int c5), (.int c6), (.int c7)] (.int (0 : Int32)) := (f131.other W_133 (Nat.ne_of_lt (Nat.lt_of_lt_of_le A_a1.lt (Nat.le_trans (Nat.le_refl _) ge_124))))
  have cp137 := f136
  obtain ⟨cl_135, Ar_135, -, Sz_135, -, Hs_135, -⟩ := cp137
  have hin_135 : ¬ ((2 : Int32) < 0 ∨ cl_135.slots.size ≤ ((2 : Int32)).toNatClampNeg) := (inb_of Sz_135 ⟨by decide, by decide⟩)
  have hat_135 : cl_135.slots[((2 : Int32)).toNatClampNeg]? = some (.int c2) := (Hs_135.at (inb_of Sz_135 ⟨by decide, by decide⟩) rfl)
  refine Go.step (fun _ k => X_133.caload hx (j := (2 : Int32)) (v := (.int c2)) (by rw [e_133]; exact Ar_135.1) (State.isArrayOf_alike hZ.alike Ar_135.2.1) Ar_135.2.2 hin_135 hat_135 (g := (mkF m 34 #[vR a1, vI 6, vR b124] [(.int (2 : Int32)), (.ref a1), (.int (2 : Int32)), (.ref b124)])) rfl rfl (hb hby d_method_3_code_34) _ k) ?_
  show Go p e below _ (T_133.setTop (mkF m 35 #[vR a1, vI 6, vR b124] [(.int c2), (.int (2 : Int32)), (.ref b124)]))
  have cp139 := V_133
  obtain ⟨cl_138, Ar_138, ck_138, Sz_138, Ng_138, Hs_138, Gs_138⟩ := cp139
  have hin_138 : ¬ ((2 : Int32) < 0 ∨ cl_138.slots.size ≤ ((2 : Int32)).toNatClampNeg) := inb_of Sz_138 ⟨by decide, by decide⟩
  obtain ⟨T_138, h_138, X_138, e_138, W_138, st_138⟩ := stC X_133 hx hZ e_133 Ar_138 (j := (2 : Int32)) hin_138 (g := (mkF m 35 #[vR a1, vI 6, vR b124] [(.int c2), (.int (2 : Int32)), (.ref b124)])) rfl rfl (hb hby d_method_3_code_35)
  refine Go.step st_138 ?_
  have N_138 := Fr.snoc X_138 N_133 g_b124
  have le_138 : h_133.size ≤ h_138.size := Nat.le_of_eq W_138.size.symm
  have KP_138 := KP_133.wr W_138 (Or.inr sz_b124)
  have O_138 := O_133.wr W_138 g_b124
  have V_138 : Arv Z h_138 b124 k_124 .char (6 : Int32) [(.int c0), (.int c1), (.int c2), (.int (0 : Int32)), (.int (0 : Int32)), (.int (0 : Int32))] (.int (0 : Int32)) := by
    have q := Arv.set Ar_138 ck_138 Sz_138 Ng_138 Hs_138 Gs_138 (fits_nar_char _) W_138 2 rfl (Nat.le_of_ble_eq_true rfl)
    rw [nar_lat l_c2] at q; exact q
  show Go p e below _ (T_138.setTop (mkF m 36 #[vR a1, vI 6, vR b124] []))
  refine Go.step (fun _ k => XS.iloadN X_138.here hx rfl (hb hby d_method_3_code_36) rfl  k) ?_
  refine Go.step (fun _ k => XS.iconst X_138.here hx rfl (hb hby d_method_3_code_37) k) ?_
  show Go p e below _ (T_138.setTop (mkF m 38 #[vR a1, vI 6, vR b124] [(.int (3 : Int32)), (.int (6 : Int32))]))
  refine Go.step (fun _ k => XS.icmpNo X_138.here hx rfl (hb hby d_method_3_code_38) rfl (tlt ((by decide) : (3 : Int32) < (6 : Int32))).2.2.2 k) ?_
  show Go p e below _ (T_138.setTop (mkF m 41 #[vR a1, vI 6, vR b124] []))
  refine Go.step (fun _ k => XS.aloadN X_138.here hx rfl (hb hby d_method_3_code_41) rfl rfl k) ?_
  refine Go.step (fun _ k => XS.iconst X_138.here hx rfl (hb hby d_method_3_code_42) k) ?_
  refine Go.step (fun _ k => XS.aloadN X_138.here hx rfl (hb hby d_method_3_code_43) rfl rfl k) ?_
  refine Go.step (fun _ k => XS.iconst X_138.here hx rfl (hb hby d_method_3_code_44) k) ?_
  show Go p e below _ (T_138.setTop (mkF m 45 #[vR a1, vI 6, vR b124] [(.int (3 : Int32)), (.ref a1), (.int (3 : Int32)), (.ref b124)]))
  have f141 : Arv Z h_138 a1 k1 .char (8 : Int32) [(.int c0), (.int c1), (.int c2), (.int c3), (.int c4), (.int c5), (.int c6), (.int c7)] (.int (0 : Int32)) := (f136.other W_138 (Nat.ne_of_lt (Nat.lt_of_lt_of_le A_a1.lt (Nat.le_trans (Nat.le_refl _) ge_124))))
  have cp142 := f141
  obtain ⟨cl_140, Ar_140, -, Sz_140, -, Hs_140, -⟩ := cp142
  have hin_140 : ¬ ((3 : Int32) < 0 ∨ cl_140.slots.size ≤ ((3 : Int32)).toNatClampNeg) := (inb_of Sz_140 ⟨by decide, by decide⟩)
  have hat_140 : cl_140.slots[((3 : Int32)).toNatClampNeg]? = some (.int c3) := (Hs_140.at (inb_of Sz_140 ⟨by decide, by decide⟩) rfl)
  refine Go.step (fun _ k => X_138.caload hx (j := (3 : Int32)) (v := (.int c3)) (by rw [e_138]; exact Ar_140.1) (State.isArrayOf_alike hZ.alike Ar_140.2.1) Ar_140.2.2 hin_140 hat_140 (g := (mkF m 45 #[vR a1, vI 6, vR b124] [(.int (3 : Int32)), (.ref a1), (.int (3 : Int32)), (.ref b124)])) rfl rfl (hb hby d_method_3_code_45) _ k) ?_
  show Go p e below _ (T_138.setTop (mkF m 46 #[vR a1, vI 6, vR b124] [(.int c3), (.int (3 : Int32)), (.ref b124)]))
  have cp144 := V_138
  obtain ⟨cl_143, Ar_143, ck_143, Sz_143, Ng_143, Hs_143, Gs_143⟩ := cp144
  have hin_143 : ¬ ((3 : Int32) < 0 ∨ cl_143.slots.size ≤ ((3 : Int32)).toNatClampNeg) := inb_of Sz_143 ⟨by decide, by decide⟩
  obtain ⟨T_143, h_143, X_143, e_143, W_143, st_143⟩ := stC X_138 hx hZ e_138 Ar_143 (j := (3 : Int32)) hin_143 (g := (mkF m 46 #[vR a1, vI 6, vR b124] [(.int c3), (.int (3 : Int32)), (.ref b124)])) rfl rfl (hb hby d_method_3_code_46)
  refine Go.step st_143 ?_
  have N_143 := Fr.snoc X_143 N_138 g_b124
  have le_143 : h_138.size ≤ h_143.size := Nat.le_of_eq W_143.size.symm
  have KP_143 := KP_138.wr W_143 (Or.inr sz_b124)
  have O_143 := O_138.wr W_143 g_b124
  have V_143 : Arv Z h_143 b124 k_124 .char (6 : Int32) [(.int c0), (.int c1), (.int c2), (.int c3), (.int (0 : Int32)), (.int (0 : Int32))] (.int (0 : Int32)) := by
    have q := Arv.set Ar_143 ck_143 Sz_143 Ng_143 Hs_143 Gs_143 (fits_nar_char _) W_143 3 rfl (Nat.le_of_ble_eq_true rfl)
    rw [nar_lat l_c3] at q; exact q
  show Go p e below _ (T_143.setTop (mkF m 47 #[vR a1, vI 6, vR b124] []))
  refine Go.step (fun _ k => XS.iloadN X_143.here hx rfl (hb hby d_method_3_code_47) rfl  k) ?_
  refine Go.step (fun _ k => XS.iconst X_143.here hx rfl (hb hby d_method_3_code_48) k) ?_
  show Go p e below _ (T_143.setTop (mkF m 49 #[vR a1, vI 6, vR b124] [(.int (4 : Int32)), (.int (6 : Int32))]))
  refine Go.step (fun _ k => XS.icmpNo X_143.here hx rfl (hb hby d_method_3_code_49) rfl (tlt ((by decide) : (4 : Int32) < (6 : Int32))).2.2.2 k) ?_
  show Go p e below _ (T_143.setTop (mkF m 52 #[vR a1, vI 6, vR b124] []))
  refine Go.step (fun _ k => XS.aloadN X_143.here hx rfl (hb hby d_method_3_code_52) rfl rfl k) ?_
  refine Go.step (fun _ k => XS.iconst X_143.here hx rfl (hb hby d_method_3_code_53) k) ?_
  refine Go.step (fun _ k => XS.aloadN X_143.here hx rfl (hb hby d_method_3_code_54) rfl rfl k) ?_
  refine Go.step (fun _ k => XS.iconst X_143.here hx rfl (hb hby d_method_3_code_55) k) ?_
  show Go p e below _ (T_143.setTop (mkF m 56 #[vR a1, vI 6, vR b124] [(.int (4 : Int32)), (.ref a1), (.int (4 : Int32)), (.ref b124)]))
  have f146 : Arv Z h_143 a1 k1 .char (8 : Int32) [(.int c0), (.int c1), (.int c2), (.int c3), (.int c4), (.int c5), (.int c6), (.int c7)] (.int (0 : Int32)) := (f141.other W_143 (Nat.ne_of_lt (Nat.lt_of_lt_of_le A_a1.lt (Nat.le_trans (Nat.le_refl _) ge_124))))
  have cp147 := f146
  obtain ⟨cl_145, Ar_145, -, Sz_145, -, Hs_145, -⟩ := cp147
  have hin_145 : ¬ ((4 : Int32) < 0 ∨ cl_145.slots.size ≤ ((4 : Int32)).toNatClampNeg) := (inb_of Sz_145 ⟨by decide, by decide⟩)
  have hat_145 : cl_145.slots[((4 : Int32)).toNatClampNeg]? = some (.int c4) := (Hs_145.at (inb_of Sz_145 ⟨by decide, by decide⟩) rfl)
  refine Go.step (fun _ k => X_143.caload hx (j := (4 : Int32)) (v := (.int c4)) (by rw [e_143]; exact Ar_145.1) (State.isArrayOf_alike hZ.alike Ar_145.2.1) Ar_145.2.2 hin_145 hat_145 (g := (mkF m 56 #[vR a1, vI 6, vR b124] [(.int (4 : Int32)), (.ref a1), (.int (4 : Int32)), (.ref b124)])) rfl rfl (hb hby d_method_3_code_56) _ k) ?_
  show Go p e below _ (T_143.setTop (mkF m 57 #[vR a1, vI 6, vR b124] [(.int c4), (.int (4 : Int32)), (.ref b124)]))
  have cp149 := V_143
  obtain ⟨cl_148, Ar_148, ck_148, Sz_148, Ng_148, Hs_148, Gs_148⟩ := cp149
  have hin_148 : ¬ ((4 : Int32) < 0 ∨ cl_148.slots.size ≤ ((4 : Int32)).toNatClampNeg) := inb_of Sz_148 ⟨by decide, by decide⟩
  obtain ⟨T_148, h_148, X_148, e_148, W_148, st_148⟩ := stC X_143 hx hZ e_143 Ar_148 (j := (4 : Int32)) hin_148 (g := (mkF m 57 #[vR a1, vI 6, vR b124] [(.int c4), (.int (4 : Int32)), (.ref b124)])) rfl rfl (hb hby d_method_3_code_57)
  refine Go.step st_148 ?_
  have N_148 := Fr.snoc X_148 N_143 g_b124
  have le_148 : h_143.size ≤ h_148.size := Nat.le_of_eq W_148.size.symm
  have KP_148 := KP_143.wr W_148 (Or.inr sz_b124)
  have O_148 := O_143.wr W_148 g_b124
  have V_148 : Arv Z h_148 b124 k_124 .char (6 : Int32) [(.int c0), (.int c1), (.int c2), (.int c3), (.int c4), (.int (0 : Int32))] (.int (0 : Int32)) := by
    have q := Arv.set Ar_148 ck_148 Sz_148 Ng_148 Hs_148 Gs_148 (fits_nar_char _) W_148 4 rfl (Nat.le_of_ble_eq_true rfl)
    rw [nar_lat l_c4] at q; exact q
  show Go p e below _ (T_148.setTop (mkF m 58 #[vR a1, vI 6, vR b124] []))
  refine Go.step (fun _ k => XS.iloadN X_148.here hx rfl (hb hby d_method_3_code_58) rfl  k) ?_
  refine Go.step (fun _ k => XS.iconst X_148.here hx rfl (hb hby d_method_3_code_59) k) ?_
  show Go p e below _ (T_148.setTop (mkF m 60 #[vR a1, vI 6, vR b124] [(.int (5 : Int32)), (.int (6 : Int32))]))
  refine Go.step (fun _ k => XS.icmpNo X_148.here hx rfl (hb hby d_method_3_code_60) rfl (tlt ((by decide) : (5 : Int32) < (6 : Int32))).2.2.2 k) ?_
  show Go p e below _ (T_148.setTop (mkF m 63 #[vR a1, vI 6, vR b124] []))
  refine Go.step (fun _ k => XS.aloadN X_148.here hx rfl (hb hby d_method_3_code_63) rfl rfl k) ?_
  refine Go.step (fun _ k => XS.iconst X_148.here hx rfl (hb hby d_method_3_code_64) k) ?_
  refine Go.step (fun _ k => XS.aloadN X_148.here hx rfl (hb hby d_method_3_code_65) rfl rfl k) ?_
  refine Go.step (fun _ k => XS.iconst X_148.here hx rfl (hb hby d_method_3_code_66) k) ?_
  show Go p e below _ (T_148.setTop (mkF m 67 #[vR a1, vI 6, vR b124] [(.int (5 : Int32)), (.ref a1), (.int (5 : Int32)), (.ref b124)]))
  have f151 : Arv Z h_148 a1 k1 .char (8 : Int32) [(.int c0), (.int c1), (.int c2), (.int c3), (.int c4), (.int c5), (.int c6), (.int c7)] (.int (0 : Int32)) := (f146.other W_148 (Nat.ne_of_lt (Nat.lt_of_lt_of_le A_a1.lt (Nat.le_trans (Nat.le_refl _) ge_124))))
  have cp152 := f151
  obtain ⟨cl_150, Ar_150, -, Sz_150, -, Hs_150, -⟩ := cp152
  have hin_150 : ¬ ((5 : Int32) < 0 ∨ cl_150.slots.size ≤ ((5 : Int32)).toNatClampNeg) := (inb_of Sz_150 ⟨by decide, by decide⟩)
  have hat_150 : cl_150.slots[((5 : Int32)).toNatClampNeg]? = some (.int c5) := (Hs_150.at (inb_of Sz_150 ⟨by decide, by decide⟩) rfl)
  refine Go.step (fun _ k => X_148.caload hx (j := (5 : Int32)) (v := (.int c5)) (by rw [e_148]; exact Ar_150.1) (State.isArrayOf_alike hZ.alike Ar_150.2.1) Ar_150.2.2 hin_150 hat_150 (g := (mkF m 67 #[vR a1, vI 6, vR b124] [(.int (5 : Int32)), (.ref a1), (.int (5 : Int32)), (.ref b124)])) rfl rfl (hb hby d_method_3_code_67) _ k) ?_
  show Go p e below _ (T_148.setTop (mkF m 68 #[vR a1, vI 6, vR b124] [(.int c5), (.int (5 : Int32)), (.ref b124)]))
  have cp154 := V_148
  obtain ⟨cl_153, Ar_153, ck_153, Sz_153, Ng_153, Hs_153, Gs_153⟩ := cp154
  have hin_153 : ¬ ((5 : Int32) < 0 ∨ cl_153.slots.size ≤ ((5 : Int32)).toNatClampNeg) := inb_of Sz_153 ⟨by decide, by decide⟩
  obtain ⟨T_153, h_153, X_153, e_153, W_153, st_153⟩ := stC X_148 hx hZ e_148 Ar_153 (j := (5 : Int32)) hin_153 (g := (mkF m 68 #[vR a1, vI 6, vR b124] [(.int c5), (.int (5 : Int32)), (.ref b124)])) rfl rfl (hb hby d_method_3_code_68)
  refine Go.step st_153 ?_
  have N_153 := Fr.snoc X_153 N_148 g_b124
  have le_153 : h_148.size ≤ h_153.size := Nat.le_of_eq W_153.size.symm
  have KP_153 := KP_148.wr W_153 (Or.inr sz_b124)
  have O_153 := O_148.wr W_153 g_b124
  have V_153 : Arv Z h_153 b124 k_124 .char (6 : Int32) [(.int c0), (.int c1), (.int c2), (.int c3), (.int c4), (.int c5)] (.int (0 : Int32)) := by
    have q := Arv.set Ar_153 ck_153 Sz_153 Ng_153 Hs_153 Gs_153 (fits_nar_char _) W_153 5 rfl (Nat.le_of_ble_eq_true rfl)
    rw [nar_lat l_c5] at q; exact q
  show Go p e below _ (T_153.setTop (mkF m 69 #[vR a1, vI 6, vR b124] []))
  refine Go.step (fun _ k => XS.iloadN X_153.here hx rfl (hb hby d_method_3_code_69) rfl  k) ?_
  refine Go.step (fun _ k => XS.bipush X_153.here hx rfl (hb hby d_method_3_code_70) k) ?_
  show Go p e below _ (T_153.setTop (mkF m 72 #[vR a1, vI 6, vR b124] [(.int (6 : Int32)), (.int (6 : Int32))]))
  refine Go.step (fun _ k => XS.icmpYes X_153.here hx rfl (pc0 := 72) (pc' := 83) rfl (hb hby d_method_3_code_72) rfl (flt ((by decide) : ¬ ((6 : Int32) < (6 : Int32)))).2.2.2 (by decide) (by decide) k) ?_
  show Go p e below _ (T_153.setTop (mkF m 83 #[vR a1, vI 6, vR b124] []))
  refine Go.step (fun _ k => XS.iloadN X_153.here hx rfl (hb hby d_method_3_code_83) rfl  k) ?_
  refine Go.step (fun _ k => XS.bipush X_153.here hx rfl (hb hby d_method_3_code_84) k) ?_
  show Go p e below _ (T_153.setTop (mkF m 86 #[vR a1, vI 6, vR b124] [(.int (7 : Int32)), (.int (6 : Int32))]))
  refine Go.step (fun _ k => XS.icmpYes X_153.here hx rfl (pc0 := 86) (pc' := 97) rfl (hb hby d_method_3_code_86) rfl (flt ((by decide) : ¬ ((7 : Int32) < (6 : Int32)))).2.2.2 (by decide) (by decide) k) ?_
  show Go p e below _ (T_153.setTop (mkF m 97 #[vR a1, vI 6, vR b124] []))
  refine Go.step (fun _ k => XS.aloadN X_153.here hx rfl (hb hby d_method_3_code_97) rfl rfl k) ?_
  show Go p e below _ (T_153.setTop (mkF m 98 #[vR a1, vI 6, vR b124] [(.ref b124)]))
  exact Go.retV X_153 hx hlk hret rfl (Or.inr (Or.inr (Or.inr (Or.inr ⟨rfl, rfl, rfl⟩)))) (hb hby d_method_3_code_98) (by decide) (by decide) (by rw [e_153]; exact ⟨b124, k_124, rfl, N_153, KP_153, sz_b124, V_153⟩)
--@E
--@C copy7
def Q_copy7 (Z : State) (zc : Int32) (va : Addr) (kv : ClassId) (ea : Addr) (eb : Addr) (wa : Addr) (wb : Addr) (a1 : Addr) (k1 : ClassId) (c0 : Int32) (c1 : Int32) (c2 : Int32) (c3 : Int32) (c4 : Int32) (c5 : Int32) (c6 : Int32) (c7 : Int32) (h0 : Heap) (n0 : Nat) (v : Option Value) (h : Heap) (L : List Loc) : Prop := ∃ (r : Addr) (kr : ClassId), v = some (.ref r) ∧ Fr n0 L ∧ Keep h0 h [] ∧ h0.size ≤ r ∧ Arv Z h r kr .char (7 : Int32) [(.int c0), (.int c1), (.int c2), (.int c3), (.int c4), (.int c5), (.int c6)] (.int (0 : Int32))
set_option maxRecDepth 65536 in
set_option maxHeartbeats 40000000 in
theorem rm_copy7 (l : Launch) (Z : State) (a0 : Array Value) (hw : ∀ d ∈ tables_1, d.before a0 Z = true) (zc : Int32) (va : Addr) (kv : ClassId) (ea : Addr) (eb : Addr) (wa : Addr) (wb : Addr) (a1 : Addr) (k1 : ClassId) (c0 : Int32) (c1 : Int32) (c2 : Int32) (c3 : Int32) (c4 : Int32) (c5 : Int32) (c6 : Int32) (c7 : Int32) (h0 : Heap) (n0 : Nat) (Z0 : n0 ≤ h0.size) (A_a1 : Arv Z h0 a1 k1 .char (8 : Int32) [(.int c0), (.int c1), (.int c2), (.int c3), (.int c4), (.int c5), (.int c6), (.int c7)] (.int (0 : Int32))) (l_c0 : (¬ c0 < 0 ∧ ¬ (255 : Int32) < c0)) (l_c1 : (¬ c1 < 0 ∧ ¬ (255 : Int32) < c1)) (l_c2 : (¬ c2 < 0 ∧ ¬ (255 : Int32) < c2)) (l_c3 : (¬ c3 < 0 ∧ ¬ (255 : Int32) < c3)) (l_c4 : (¬ c4 < 0 ∧ ¬ (255 : Int32) < c4)) (l_c5 : (¬ c5 < 0 ∧ ¬ (255 : Int32) < c5)) (l_c6 : (¬ c6 < 0 ∧ ¬ (255 : Int32) < c6)) (l_c7 : (¬ c7 < 0 ∧ ¬ (255 : Int32) < c7)) (hSt : St Z zc va kv ea eb wa wb) (hO : Old Z n0 h0) :
    CN l Z ({ cls := "com/example/patient_ledger/patientledger/EntryTypeFromWireNamePinLaw", name := "copy", desc := "([CI)[C" } : Jvm.MethodName) [(Jvm.Cond.code ({ cls := "com/example/patient_ledger/patientledger/EntryTypeFromWireNamePinLaw", name := "copy", desc := "([CI)[C" } : Jvm.MethodName) method_3_code (3 : Nat) (Option.some (Jvm.ClassFile.FieldType.array Jvm.ClassFile.FieldType.char)))] ({ frames := 0, cells := 1, slots := 7, locals := 0 } : Room) #[(.ref a1), (.int (7 : Int32))] h0 (Q_copy7 Z zc va kv ea eb wa wb a1 k1 c0 c1 c2 c3 c4 c5 c6 c7 h0 n0) := by
  refine CN.of (L0 := #[vR a1, vI 7, vU]) (plainFor_of_name pn_2) (fun m => by first | (simp [entryFrame, mkF, argsToLocals, Value.category]; done) | rfl) ?_
  intro p e s m below meth c s₁ hx hby hml hret hlk hZ hown hnm X0 e0
  have N0 := Fr.nil n0
  have KP0 := Keep.refl h0 []
  have hSt_ := hSt
  obtain ⟨S_cs, n_cs, S_va, E_va, A_va, S_ea, F_ea, S_wa, S_eb, F_eb, S_wb⟩ := hSt_
  show Go p e below _ (s₁.setTop (mkF m 0 #[vR a1, vI 7, vU] []))
  refine Go.step (fun _ k => XS.iloadN X0.here hx rfl (hb hby d_method_3_code_0) rfl  k) ?_
  show Go p e below _ (s₁.setTop (mkF m 1 #[vR a1, vI 7, vU] [(.int (7 : Int32))]))
  obtain ⟨T_155, h_155, k_155, X_155, e_155, E_155, A_155, st_155⟩ := newP X0 hx hZ (aty := .char) (wd_0 hw) e0 (g := (mkF m 1 #[vR a1, vI 7, vU] [(.int (7 : Int32))])) rfl (hb hby d_method_3_code_1) rfl (by decide) (cap := 7) (by decide) (by decide) (by decide) (by decide)
  obtain ⟨b155, q_155⟩ : ∃ z, z = h0.size := ⟨_, rfl⟩
  rw [← q_155] at A_155 st_155
  refine Go.step st_155 ?_
  have le_155 : h0.size ≤ h_155.size := E_155.1
  have KP_155 := KP0.ext E_155
  have O_155 := hO.ext E_155
  have ge_155 : h0.size ≤ b155 := Nat.le_of_eq q_155.symm
  have sz_b155 : h0.size ≤ b155 := Nat.le_trans (Nat.le_refl _) ge_155
  have g_b155 : n0 ≤ b155 := Nat.le_trans Z0 sz_b155
  have V_155 : Arv Z h_155 b155 k_155 .char (7 : Int32) [(.int (0 : Int32)), (.int (0 : Int32)), (.int (0 : Int32)), (.int (0 : Int32)), (.int (0 : Int32)), (.int (0 : Int32)), (.int (0 : Int32))] (.int (0 : Int32)) := (Arv.new A_155 (by decide)).pad (pad_rep [] (.int (0 : Int32)) 7)
  show Go p e below _ (T_155.setTop (mkF m 3 #[vR a1, vI 7, vU] [(.ref b155)]))
  refine Go.step (fun _ k => XS.astoreN X_155.here hx rfl (hb hby d_method_3_code_3) rfl rfl (l' := #[vR a1, vI 7, vR b155]) rfl k) ?_
  show Go p e below _ (T_155.setTop (mkF m 4 #[vR a1, vI 7, vR b155] []))
  refine Go.step (fun _ k => XS.iloadN X_155.here hx rfl (hb hby d_method_3_code_4) rfl  k) ?_
  show Go p e below _ (T_155.setTop (mkF m 5 #[vR a1, vI 7, vR b155] [(.int (7 : Int32))]))
  refine Go.step (fun _ k => XS.ifNo X_155.here hx rfl (hb hby d_method_3_code_5) rfl ((if0 _ _).trans (tlt ((by decide) : (0 : Int32) < (7 : Int32))).2.2.2) k) ?_
  show Go p e below _ (T_155.setTop (mkF m 8 #[vR a1, vI 7, vR b155] []))
  refine Go.step (fun _ k => XS.aloadN X_155.here hx rfl (hb hby d_method_3_code_8) rfl rfl k) ?_
  refine Go.step (fun _ k => XS.iconst X_155.here hx rfl (hb hby d_method_3_code_9) k) ?_
  refine Go.step (fun _ k => XS.aloadN X_155.here hx rfl (hb hby d_method_3_code_10) rfl rfl k) ?_
  refine Go.step (fun _ k => XS.iconst X_155.here hx rfl (hb hby d_method_3_code_11) k) ?_
  show Go p e below _ (T_155.setTop (mkF m 12 #[vR a1, vI 7, vR b155] [(.int (0 : Int32)), (.ref a1), (.int (0 : Int32)), (.ref b155)]))
  have f157 : Arv Z h_155 a1 k1 .char (8 : Int32) [(.int c0), (.int c1), (.int c2), (.int c3), (.int c4), (.int c5), (.int c6), (.int c7)] (.int (0 : Int32)) := (A_a1.ext E_155)
  have cp158 := f157
  obtain ⟨cl_156, Ar_156, -, Sz_156, -, Hs_156, -⟩ := cp158
  have hin_156 : ¬ ((0 : Int32) < 0 ∨ cl_156.slots.size ≤ ((0 : Int32)).toNatClampNeg) := (inb_of Sz_156 ⟨by decide, by decide⟩)
  have hat_156 : cl_156.slots[((0 : Int32)).toNatClampNeg]? = some (.int c0) := (Hs_156.at (inb_of Sz_156 ⟨by decide, by decide⟩) rfl)
  refine Go.step (fun _ k => X_155.caload hx (j := (0 : Int32)) (v := (.int c0)) (by rw [e_155]; exact Ar_156.1) (State.isArrayOf_alike hZ.alike Ar_156.2.1) Ar_156.2.2 hin_156 hat_156 (g := (mkF m 12 #[vR a1, vI 7, vR b155] [(.int (0 : Int32)), (.ref a1), (.int (0 : Int32)), (.ref b155)])) rfl rfl (hb hby d_method_3_code_12) _ k) ?_
  show Go p e below _ (T_155.setTop (mkF m 13 #[vR a1, vI 7, vR b155] [(.int c0), (.int (0 : Int32)), (.ref b155)]))
  have cp160 := V_155
  obtain ⟨cl_159, Ar_159, ck_159, Sz_159, Ng_159, Hs_159, Gs_159⟩ := cp160
  have hin_159 : ¬ ((0 : Int32) < 0 ∨ cl_159.slots.size ≤ ((0 : Int32)).toNatClampNeg) := inb_of Sz_159 ⟨by decide, by decide⟩
  obtain ⟨T_159, h_159, X_159, e_159, W_159, st_159⟩ := stC X_155 hx hZ e_155 Ar_159 (j := (0 : Int32)) hin_159 (g := (mkF m 13 #[vR a1, vI 7, vR b155] [(.int c0), (.int (0 : Int32)), (.ref b155)])) rfl rfl (hb hby d_method_3_code_13)
  refine Go.step st_159 ?_
  have N_159 := Fr.snoc X_159 N0 g_b155
  have le_159 : h_155.size ≤ h_159.size := Nat.le_of_eq W_159.size.symm
  have KP_159 := KP_155.wr W_159 (Or.inr sz_b155)
  have O_159 := O_155.wr W_159 g_b155
  have V_159 : Arv Z h_159 b155 k_155 .char (7 : Int32) [(.int c0), (.int (0 : Int32)), (.int (0 : Int32)), (.int (0 : Int32)), (.int (0 : Int32)), (.int (0 : Int32)), (.int (0 : Int32))] (.int (0 : Int32)) := by
    have q := Arv.set Ar_159 ck_159 Sz_159 Ng_159 Hs_159 Gs_159 (fits_nar_char _) W_159 0 rfl (Nat.le_of_ble_eq_true rfl)
    rw [nar_lat l_c0] at q; exact q
  show Go p e below _ (T_159.setTop (mkF m 14 #[vR a1, vI 7, vR b155] []))
  refine Go.step (fun _ k => XS.iloadN X_159.here hx rfl (hb hby d_method_3_code_14) rfl  k) ?_
  refine Go.step (fun _ k => XS.iconst X_159.here hx rfl (hb hby d_method_3_code_15) k) ?_
  show Go p e below _ (T_159.setTop (mkF m 16 #[vR a1, vI 7, vR b155] [(.int (1 : Int32)), (.int (7 : Int32))]))
  refine Go.step (fun _ k => XS.icmpNo X_159.here hx rfl (hb hby d_method_3_code_16) rfl (tlt ((by decide) : (1 : Int32) < (7 : Int32))).2.2.2 k) ?_
  show Go p e below _ (T_159.setTop (mkF m 19 #[vR a1, vI 7, vR b155] []))
  refine Go.step (fun _ k => XS.aloadN X_159.here hx rfl (hb hby d_method_3_code_19) rfl rfl k) ?_
  refine Go.step (fun _ k => XS.iconst X_159.here hx rfl (hb hby d_method_3_code_20) k) ?_
  refine Go.step (fun _ k => XS.aloadN X_159.here hx rfl (hb hby d_method_3_code_21) rfl rfl k) ?_
  refine Go.step (fun _ k => XS.iconst X_159.here hx rfl (hb hby d_method_3_code_22) k) ?_
  show Go p e below _ (T_159.setTop (mkF m 23 #[vR a1, vI 7, vR b155] [(.int (1 : Int32)), (.ref a1), (.int (1 : Int32)), (.ref b155)]))
  have f162 : Arv Z h_159 a1 k1 .char (8 : Int32) [(.int c0), (.int c1), (.int c2), (.int c3), (.int c4), (.int c5), (.int c6), (.int c7)] (.int (0 : Int32)) := (f157.other W_159 (Nat.ne_of_lt (Nat.lt_of_lt_of_le A_a1.lt (Nat.le_trans (Nat.le_refl _) ge_155))))
  have cp163 := f162
  obtain ⟨cl_161, Ar_161, -, Sz_161, -, Hs_161, -⟩ := cp163
  have hin_161 : ¬ ((1 : Int32) < 0 ∨ cl_161.slots.size ≤ ((1 : Int32)).toNatClampNeg) := (inb_of Sz_161 ⟨by decide, by decide⟩)
  have hat_161 : cl_161.slots[((1 : Int32)).toNatClampNeg]? = some (.int c1) := (Hs_161.at (inb_of Sz_161 ⟨by decide, by decide⟩) rfl)
  refine Go.step (fun _ k => X_159.caload hx (j := (1 : Int32)) (v := (.int c1)) (by rw [e_159]; exact Ar_161.1) (State.isArrayOf_alike hZ.alike Ar_161.2.1) Ar_161.2.2 hin_161 hat_161 (g := (mkF m 23 #[vR a1, vI 7, vR b155] [(.int (1 : Int32)), (.ref a1), (.int (1 : Int32)), (.ref b155)])) rfl rfl (hb hby d_method_3_code_23) _ k) ?_
  show Go p e below _ (T_159.setTop (mkF m 24 #[vR a1, vI 7, vR b155] [(.int c1), (.int (1 : Int32)), (.ref b155)]))
  have cp165 := V_159
  obtain ⟨cl_164, Ar_164, ck_164, Sz_164, Ng_164, Hs_164, Gs_164⟩ := cp165
  have hin_164 : ¬ ((1 : Int32) < 0 ∨ cl_164.slots.size ≤ ((1 : Int32)).toNatClampNeg) := inb_of Sz_164 ⟨by decide, by decide⟩
  obtain ⟨T_164, h_164, X_164, e_164, W_164, st_164⟩ := stC X_159 hx hZ e_159 Ar_164 (j := (1 : Int32)) hin_164 (g := (mkF m 24 #[vR a1, vI 7, vR b155] [(.int c1), (.int (1 : Int32)), (.ref b155)])) rfl rfl (hb hby d_method_3_code_24)
  refine Go.step st_164 ?_
  have N_164 := Fr.snoc X_164 N_159 g_b155
  have le_164 : h_159.size ≤ h_164.size := Nat.le_of_eq W_164.size.symm
  have KP_164 := KP_159.wr W_164 (Or.inr sz_b155)
  have O_164 := O_159.wr W_164 g_b155
  have V_164 : Arv Z h_164 b155 k_155 .char (7 : Int32) [(.int c0), (.int c1), (.int (0 : Int32)), (.int (0 : Int32)), (.int (0 : Int32)), (.int (0 : Int32)), (.int (0 : Int32))] (.int (0 : Int32)) := by
    have q := Arv.set Ar_164 ck_164 Sz_164 Ng_164 Hs_164 Gs_164 (fits_nar_char _) W_164 1 rfl (Nat.le_of_ble_eq_true rfl)
    rw [nar_lat l_c1] at q; exact q
  show Go p e below _ (T_164.setTop (mkF m 25 #[vR a1, vI 7, vR b155] []))
  refine Go.step (fun _ k => XS.iloadN X_164.here hx rfl (hb hby d_method_3_code_25) rfl  k) ?_
  refine Go.step (fun _ k => XS.iconst X_164.here hx rfl (hb hby d_method_3_code_26) k) ?_
  show Go p e below _ (T_164.setTop (mkF m 27 #[vR a1, vI 7, vR b155] [(.int (2 : Int32)), (.int (7 : Int32))]))
  refine Go.step (fun _ k => XS.icmpNo X_164.here hx rfl (hb hby d_method_3_code_27) rfl (tlt ((by decide) : (2 : Int32) < (7 : Int32))).2.2.2 k) ?_
  show Go p e below _ (T_164.setTop (mkF m 30 #[vR a1, vI 7, vR b155] []))
  refine Go.step (fun _ k => XS.aloadN X_164.here hx rfl (hb hby d_method_3_code_30) rfl rfl k) ?_
  refine Go.step (fun _ k => XS.iconst X_164.here hx rfl (hb hby d_method_3_code_31) k) ?_
  refine Go.step (fun _ k => XS.aloadN X_164.here hx rfl (hb hby d_method_3_code_32) rfl rfl k) ?_
  refine Go.step (fun _ k => XS.iconst X_164.here hx rfl (hb hby d_method_3_code_33) k) ?_
  show Go p e below _ (T_164.setTop (mkF m 34 #[vR a1, vI 7, vR b155] [(.int (2 : Int32)), (.ref a1), (.int (2 : Int32)), (.ref b155)]))
  have f167 : Arv Z h_164 a1 k1 .char (8 : Int32) [(.int c0), (.int c1), (.int c2), (.int c3), (.int c4), (.int c5), (.int c6), (.int c7)] (.int (0 : Int32)) := (f162.other W_164 (Nat.ne_of_lt (Nat.lt_of_lt_of_le A_a1.lt (Nat.le_trans (Nat.le_refl _) ge_155))))
  have cp168 := f167
  obtain ⟨cl_166, Ar_166, -, Sz_166, -, Hs_166, -⟩ := cp168
  have hin_166 : ¬ ((2 : Int32) < 0 ∨ cl_166.slots.size ≤ ((2 : Int32)).toNatClampNeg) := (inb_of Sz_166 ⟨by decide, by decide⟩)
  have hat_166 : cl_166.slots[((2 : Int32)).toNatClampNeg]? = some (.int c2) := (Hs_166.at (inb_of Sz_166 ⟨by decide, by decide⟩) rfl)
  refine Go.step (fun _ k => X_164.caload hx (j := (2 : Int32)) (v := (.int c2)) (by rw [e_164]; exact Ar_166.1) (State.isArrayOf_alike hZ.alike Ar_166.2.1) Ar_166.2.2 hin_166 hat_166 (g := (mkF m 34 #[vR a1, vI 7, vR b155] [(.int (2 : Int32)), (.ref a1), (.int (2 : Int32)), (.ref b155)])) rfl rfl (hb hby d_method_3_code_34) _ k) ?_
  show Go p e below _ (T_164.setTop (mkF m 35 #[vR a1, vI 7, vR b155] [(.int c2), (.int (2 : Int32)), (.ref b155)]))
  have cp170 := V_164
  obtain ⟨cl_169, Ar_169, ck_169, Sz_169, Ng_169, Hs_169, Gs_169⟩ := cp170
  have hin_169 : ¬ ((2 : Int32) < 0 ∨ cl_169.slots.size ≤ ((2 : Int32)).toNatClampNeg) := inb_of Sz_169 ⟨by decide, by decide⟩
  obtain ⟨T_169, h_169, X_169, e_169, W_169, st_169⟩ := stC X_164 hx hZ e_164 Ar_169 (j := (2 : Int32)) hin_169 (g := (mkF m 35 #[vR a1, vI 7, vR b155] [(.int c2), (.int (2 : Int32)), (.ref b155)])) rfl rfl (hb hby d_method_3_code_35)
  refine Go.step st_169 ?_
  have N_169 := Fr.snoc X_169 N_164 g_b155
  have le_169 : h_164.size ≤ h_169.size := Nat.le_of_eq W_169.size.symm
  have KP_169 := KP_164.wr W_169 (Or.inr sz_b155)
  have O_169 := O_164.wr W_169 g_b155
  have V_169 : Arv Z h_169 b155 k_155 .char (7 : Int32) [(.int c0), (.int c1), (.int c2), (.int (0 : Int32)), (.int (0 : Int32)), (.int (0 : Int32)), (.int (0 : Int32))] (.int (0 : Int32)) := by
    have q := Arv.set Ar_169 ck_169 Sz_169 Ng_169 Hs_169 Gs_169 (fits_nar_char _) W_169 2 rfl (Nat.le_of_ble_eq_true rfl)
    rw [nar_lat l_c2] at q; exact q
  show Go p e below _ (T_169.setTop (mkF m 36 #[vR a1, vI 7, vR b155] []))
  refine Go.step (fun _ k => XS.iloadN X_169.here hx rfl (hb hby d_method_3_code_36) rfl  k) ?_
  refine Go.step (fun _ k => XS.iconst X_169.here hx rfl (hb hby d_method_3_code_37) k) ?_
  show Go p e below _ (T_169.setTop (mkF m 38 #[vR a1, vI 7, vR b155] [(.int (3 : Int32)), (.int (7 : Int32))]))
  refine Go.step (fun _ k => XS.icmpNo X_169.here hx rfl (hb hby d_method_3_code_38) rfl (tlt ((by decide) : (3 : Int32) < (7 : Int32))).2.2.2 k) ?_
  show Go p e below _ (T_169.setTop (mkF m 41 #[vR a1, vI 7, vR b155] []))
  refine Go.step (fun _ k => XS.aloadN X_169.here hx rfl (hb hby d_method_3_code_41) rfl rfl k) ?_
  refine Go.step (fun _ k => XS.iconst X_169.here hx rfl (hb hby d_method_3_code_42) k) ?_
  refine Go.step (fun _ k => XS.aloadN X_169.here hx rfl (hb hby d_method_3_code_43) rfl rfl k) ?_
  refine Go.step (fun _ k => XS.iconst X_169.here hx rfl (hb hby d_method_3_code_44) k) ?_
  show Go p e below _ (T_169.setTop (mkF m 45 #[vR a1, vI 7, vR b155] [(.int (3 : Int32)), (.ref a1), (.int (3 : Int32)), (.ref b155)]))
  have f172 : Arv Z h_169 a1 k1 .char (8 : Int32) [(.int c0), (.int c1), (.int c2), (.int c3), (.int c4), (.int c5), (.int c6), (.int c7)] (.int (0 : Int32)) := (f167.other W_169 (Nat.ne_of_lt (Nat.lt_of_lt_of_le A_a1.lt (Nat.le_trans (Nat.le_refl _) ge_155))))
  have cp173 := f172
  obtain ⟨cl_171, Ar_171, -, Sz_171, -, Hs_171, -⟩ := cp173
  have hin_171 : ¬ ((3 : Int32) < 0 ∨ cl_171.slots.size ≤ ((3 : Int32)).toNatClampNeg) := (inb_of Sz_171 ⟨by decide, by decide⟩)
  have hat_171 : cl_171.slots[((3 : Int32)).toNatClampNeg]? = some (.int c3) := (Hs_171.at (inb_of Sz_171 ⟨by decide, by decide⟩) rfl)
  refine Go.step (fun _ k => X_169.caload hx (j := (3 : Int32)) (v := (.int c3)) (by rw [e_169]; exact Ar_171.1) (State.isArrayOf_alike hZ.alike Ar_171.2.1) Ar_171.2.2 hin_171 hat_171 (g := (mkF m 45 #[vR a1, vI 7, vR b155] [(.int (3 : Int32)), (.ref a1), (.int (3 : Int32)), (.ref b155)])) rfl rfl (hb hby d_method_3_code_45) _ k) ?_
  show Go p e below _ (T_169.setTop (mkF m 46 #[vR a1, vI 7, vR b155] [(.int c3), (.int (3 : Int32)), (.ref b155)]))
  have cp175 := V_169
  obtain ⟨cl_174, Ar_174, ck_174, Sz_174, Ng_174, Hs_174, Gs_174⟩ := cp175
  have hin_174 : ¬ ((3 : Int32) < 0 ∨ cl_174.slots.size ≤ ((3 : Int32)).toNatClampNeg) := inb_of Sz_174 ⟨by decide, by decide⟩
  obtain ⟨T_174, h_174, X_174, e_174, W_174, st_174⟩ := stC X_169 hx hZ e_169 Ar_174 (j := (3 : Int32)) hin_174 (g := (mkF m 46 #[vR a1, vI 7, vR b155] [(.int c3), (.int (3 : Int32)), (.ref b155)])) rfl rfl (hb hby d_method_3_code_46)
  refine Go.step st_174 ?_
  have N_174 := Fr.snoc X_174 N_169 g_b155
  have le_174 : h_169.size ≤ h_174.size := Nat.le_of_eq W_174.size.symm
  have KP_174 := KP_169.wr W_174 (Or.inr sz_b155)
  have O_174 := O_169.wr W_174 g_b155
  have V_174 : Arv Z h_174 b155 k_155 .char (7 : Int32) [(.int c0), (.int c1), (.int c2), (.int c3), (.int (0 : Int32)), (.int (0 : Int32)), (.int (0 : Int32))] (.int (0 : Int32)) := by
    have q := Arv.set Ar_174 ck_174 Sz_174 Ng_174 Hs_174 Gs_174 (fits_nar_char _) W_174 3 rfl (Nat.le_of_ble_eq_true rfl)
    rw [nar_lat l_c3] at q; exact q
  show Go p e below _ (T_174.setTop (mkF m 47 #[vR a1, vI 7, vR b155] []))
  refine Go.step (fun _ k => XS.iloadN X_174.here hx rfl (hb hby d_method_3_code_47) rfl  k) ?_
  refine Go.step (fun _ k => XS.iconst X_174.here hx rfl (hb hby d_method_3_code_48) k) ?_
  show Go p e below _ (T_174.setTop (mkF m 49 #[vR a1, vI 7, vR b155] [(.int (4 : Int32)), (.int (7 : Int32))]))
  refine Go.step (fun _ k => XS.icmpNo X_174.here hx rfl (hb hby d_method_3_code_49) rfl (tlt ((by decide) : (4 : Int32) < (7 : Int32))).2.2.2 k) ?_
  show Go p e below _ (T_174.setTop (mkF m 52 #[vR a1, vI 7, vR b155] []))
  refine Go.step (fun _ k => XS.aloadN X_174.here hx rfl (hb hby d_method_3_code_52) rfl rfl k) ?_
  refine Go.step (fun _ k => XS.iconst X_174.here hx rfl (hb hby d_method_3_code_53) k) ?_
  refine Go.step (fun _ k => XS.aloadN X_174.here hx rfl (hb hby d_method_3_code_54) rfl rfl k) ?_
  refine Go.step (fun _ k => XS.iconst X_174.here hx rfl (hb hby d_method_3_code_55) k) ?_
  show Go p e below _ (T_174.setTop (mkF m 56 #[vR a1, vI 7, vR b155] [(.int (4 : Int32)), (.ref a1), (.int (4 : Int32)), (.ref b155)]))
  have f177 : Arv Z h_174 a1 k1 .char (8 : Int32) [(.int c0), (.int c1), (.int c2), (.int c3), (.int c4), (.int c5), (.int c6), (.int c7)] (.int (0 : Int32)) := (f172.other W_174 (Nat.ne_of_lt (Nat.lt_of_lt_of_le A_a1.lt (Nat.le_trans (Nat.le_refl _) ge_155))))
  have cp178 := f177
  obtain ⟨cl_176, Ar_176, -, Sz_176, -, Hs_176, -⟩ := cp178
  have hin_176 : ¬ ((4 : Int32) < 0 ∨ cl_176.slots.size ≤ ((4 : Int32)).toNatClampNeg) := (inb_of Sz_176 ⟨by decide, by decide⟩)
  have hat_176 : cl_176.slots[((4 : Int32)).toNatClampNeg]? = some (.int c4) := (Hs_176.at (inb_of Sz_176 ⟨by decide, by decide⟩) rfl)
  refine Go.step (fun _ k => X_174.caload hx (j := (4 : Int32)) (v := (.int c4)) (by rw [e_174]; exact Ar_176.1) (State.isArrayOf_alike hZ.alike Ar_176.2.1) Ar_176.2.2 hin_176 hat_176 (g := (mkF m 56 #[vR a1, vI 7, vR b155] [(.int (4 : Int32)), (.ref a1), (.int (4 : Int32)), (.ref b155)])) rfl rfl (hb hby d_method_3_code_56) _ k) ?_
  show Go p e below _ (T_174.setTop (mkF m 57 #[vR a1, vI 7, vR b155] [(.int c4), (.int (4 : Int32)), (.ref b155)]))
  have cp180 := V_174
  obtain ⟨cl_179, Ar_179, ck_179, Sz_179, Ng_179, Hs_179, Gs_179⟩ := cp180
  have hin_179 : ¬ ((4 : Int32) < 0 ∨ cl_179.slots.size ≤ ((4 : Int32)).toNatClampNeg) := inb_of Sz_179 ⟨by decide, by decide⟩
  obtain ⟨T_179, h_179, X_179, e_179, W_179, st_179⟩ := stC X_174 hx hZ e_174 Ar_179 (j := (4 : Int32)) hin_179 (g := (mkF m 57 #[vR a1, vI 7, vR b155] [(.int c4), (.int (4 : Int32)), (.ref b155)])) rfl rfl (hb hby d_method_3_code_57)
  refine Go.step st_179 ?_
  have N_179 := Fr.snoc X_179 N_174 g_b155
  have le_179 : h_174.size ≤ h_179.size := Nat.le_of_eq W_179.size.symm
  have KP_179 := KP_174.wr W_179 (Or.inr sz_b155)
  have O_179 := O_174.wr W_179 g_b155
  have V_179 : Arv Z h_179 b155 k_155 .char (7 : Int32) [(.int c0), (.int c1), (.int c2), (.int c3), (.int c4), (.int (0 : Int32)), (.int (0 : Int32))] (.int (0 : Int32)) := by
    have q := Arv.set Ar_179 ck_179 Sz_179 Ng_179 Hs_179 Gs_179 (fits_nar_char _) W_179 4 rfl (Nat.le_of_ble_eq_true rfl)
    rw [nar_lat l_c4] at q; exact q
  show Go p e below _ (T_179.setTop (mkF m 58 #[vR a1, vI 7, vR b155] []))
  refine Go.step (fun _ k => XS.iloadN X_179.here hx rfl (hb hby d_method_3_code_58) rfl  k) ?_
  refine Go.step (fun _ k => XS.iconst X_179.here hx rfl (hb hby d_method_3_code_59) k) ?_
  show Go p e below _ (T_179.setTop (mkF m 60 #[vR a1, vI 7, vR b155] [(.int (5 : Int32)), (.int (7 : Int32))]))
  refine Go.step (fun _ k => XS.icmpNo X_179.here hx rfl (hb hby d_method_3_code_60) rfl (tlt ((by decide) : (5 : Int32) < (7 : Int32))).2.2.2 k) ?_
  show Go p e below _ (T_179.setTop (mkF m 63 #[vR a1, vI 7, vR b155] []))
  refine Go.step (fun _ k => XS.aloadN X_179.here hx rfl (hb hby d_method_3_code_63) rfl rfl k) ?_
  refine Go.step (fun _ k => XS.iconst X_179.here hx rfl (hb hby d_method_3_code_64) k) ?_
  refine Go.step (fun _ k => XS.aloadN X_179.here hx rfl (hb hby d_method_3_code_65) rfl rfl k) ?_
  refine Go.step (fun _ k => XS.iconst X_179.here hx rfl (hb hby d_method_3_code_66) k) ?_
  show Go p e below _ (T_179.setTop (mkF m 67 #[vR a1, vI 7, vR b155] [(.int (5 : Int32)), (.ref a1), (.int (5 : Int32)), (.ref b155)]))
  have f182 : Arv Z h_179 a1 k1 .char (8 : Int32) [(.int c0), (.int c1), (.int c2), (.int c3), (.int c4), (.int c5), (.int c6), (.int c7)] (.int (0 : Int32)) := (f177.other W_179 (Nat.ne_of_lt (Nat.lt_of_lt_of_le A_a1.lt (Nat.le_trans (Nat.le_refl _) ge_155))))
  have cp183 := f182
  obtain ⟨cl_181, Ar_181, -, Sz_181, -, Hs_181, -⟩ := cp183
  have hin_181 : ¬ ((5 : Int32) < 0 ∨ cl_181.slots.size ≤ ((5 : Int32)).toNatClampNeg) := (inb_of Sz_181 ⟨by decide, by decide⟩)
  have hat_181 : cl_181.slots[((5 : Int32)).toNatClampNeg]? = some (.int c5) := (Hs_181.at (inb_of Sz_181 ⟨by decide, by decide⟩) rfl)
  refine Go.step (fun _ k => X_179.caload hx (j := (5 : Int32)) (v := (.int c5)) (by rw [e_179]; exact Ar_181.1) (State.isArrayOf_alike hZ.alike Ar_181.2.1) Ar_181.2.2 hin_181 hat_181 (g := (mkF m 67 #[vR a1, vI 7, vR b155] [(.int (5 : Int32)), (.ref a1), (.int (5 : Int32)), (.ref b155)])) rfl rfl (hb hby d_method_3_code_67) _ k) ?_
  show Go p e below _ (T_179.setTop (mkF m 68 #[vR a1, vI 7, vR b155] [(.int c5), (.int (5 : Int32)), (.ref b155)]))
  have cp185 := V_179
  obtain ⟨cl_184, Ar_184, ck_184, Sz_184, Ng_184, Hs_184, Gs_184⟩ := cp185
  have hin_184 : ¬ ((5 : Int32) < 0 ∨ cl_184.slots.size ≤ ((5 : Int32)).toNatClampNeg) := inb_of Sz_184 ⟨by decide, by decide⟩
  obtain ⟨T_184, h_184, X_184, e_184, W_184, st_184⟩ := stC X_179 hx hZ e_179 Ar_184 (j := (5 : Int32)) hin_184 (g := (mkF m 68 #[vR a1, vI 7, vR b155] [(.int c5), (.int (5 : Int32)), (.ref b155)])) rfl rfl (hb hby d_method_3_code_68)
  refine Go.step st_184 ?_
  have N_184 := Fr.snoc X_184 N_179 g_b155
  have le_184 : h_179.size ≤ h_184.size := Nat.le_of_eq W_184.size.symm
  have KP_184 := KP_179.wr W_184 (Or.inr sz_b155)
  have O_184 := O_179.wr W_184 g_b155
  have V_184 : Arv Z h_184 b155 k_155 .char (7 : Int32) [(.int c0), (.int c1), (.int c2), (.int c3), (.int c4), (.int c5), (.int (0 : Int32))] (.int (0 : Int32)) := by
    have q := Arv.set Ar_184 ck_184 Sz_184 Ng_184 Hs_184 Gs_184 (fits_nar_char _) W_184 5 rfl (Nat.le_of_ble_eq_true rfl)
    rw [nar_lat l_c5] at q; exact q
  show Go p e below _ (T_184.setTop (mkF m 69 #[vR a1, vI 7, vR b155] []))
  refine Go.step (fun _ k => XS.iloadN X_184.here hx rfl (hb hby d_method_3_code_69) rfl  k) ?_
  refine Go.step (fun _ k => XS.bipush X_184.here hx rfl (hb hby d_method_3_code_70) k) ?_
  show Go p e below _ (T_184.setTop (mkF m 72 #[vR a1, vI 7, vR b155] [(.int (6 : Int32)), (.int (7 : Int32))]))
  refine Go.step (fun _ k => XS.icmpNo X_184.here hx rfl (hb hby d_method_3_code_72) rfl (tlt ((by decide) : (6 : Int32) < (7 : Int32))).2.2.2 k) ?_
  show Go p e below _ (T_184.setTop (mkF m 75 #[vR a1, vI 7, vR b155] []))
  refine Go.step (fun _ k => XS.aloadN X_184.here hx rfl (hb hby d_method_3_code_75) rfl rfl k) ?_
  refine Go.step (fun _ k => XS.bipush X_184.here hx rfl (hb hby d_method_3_code_76) k) ?_
  refine Go.step (fun _ k => XS.aloadN X_184.here hx rfl (hb hby d_method_3_code_78) rfl rfl k) ?_
  refine Go.step (fun _ k => XS.bipush X_184.here hx rfl (hb hby d_method_3_code_79) k) ?_
  show Go p e below _ (T_184.setTop (mkF m 81 #[vR a1, vI 7, vR b155] [(.int (6 : Int32)), (.ref a1), (.int (6 : Int32)), (.ref b155)]))
  have f187 : Arv Z h_184 a1 k1 .char (8 : Int32) [(.int c0), (.int c1), (.int c2), (.int c3), (.int c4), (.int c5), (.int c6), (.int c7)] (.int (0 : Int32)) := (f182.other W_184 (Nat.ne_of_lt (Nat.lt_of_lt_of_le A_a1.lt (Nat.le_trans (Nat.le_refl _) ge_155))))
  have cp188 := f187
  obtain ⟨cl_186, Ar_186, -, Sz_186, -, Hs_186, -⟩ := cp188
  have hin_186 : ¬ ((6 : Int32) < 0 ∨ cl_186.slots.size ≤ ((6 : Int32)).toNatClampNeg) := (inb_of Sz_186 ⟨by decide, by decide⟩)
  have hat_186 : cl_186.slots[((6 : Int32)).toNatClampNeg]? = some (.int c6) := (Hs_186.at (inb_of Sz_186 ⟨by decide, by decide⟩) rfl)
  refine Go.step (fun _ k => X_184.caload hx (j := (6 : Int32)) (v := (.int c6)) (by rw [e_184]; exact Ar_186.1) (State.isArrayOf_alike hZ.alike Ar_186.2.1) Ar_186.2.2 hin_186 hat_186 (g := (mkF m 81 #[vR a1, vI 7, vR b155] [(.int (6 : Int32)), (.ref a1), (.int (6 : Int32)), (.ref b155)])) rfl rfl (hb hby d_method_3_code_81) _ k) ?_
  show Go p e below _ (T_184.setTop (mkF m 82 #[vR a1, vI 7, vR b155] [(.int c6), (.int (6 : Int32)), (.ref b155)]))
  have cp190 := V_184
  obtain ⟨cl_189, Ar_189, ck_189, Sz_189, Ng_189, Hs_189, Gs_189⟩ := cp190
  have hin_189 : ¬ ((6 : Int32) < 0 ∨ cl_189.slots.size ≤ ((6 : Int32)).toNatClampNeg) := inb_of Sz_189 ⟨by decide, by decide⟩
  obtain ⟨T_189, h_189, X_189, e_189, W_189, st_189⟩ := stC X_184 hx hZ e_184 Ar_189 (j := (6 : Int32)) hin_189 (g := (mkF m 82 #[vR a1, vI 7, vR b155] [(.int c6), (.int (6 : Int32)), (.ref b155)])) rfl rfl (hb hby d_method_3_code_82)
  refine Go.step st_189 ?_
  have N_189 := Fr.snoc X_189 N_184 g_b155
  have le_189 : h_184.size ≤ h_189.size := Nat.le_of_eq W_189.size.symm
  have KP_189 := KP_184.wr W_189 (Or.inr sz_b155)
  have O_189 := O_184.wr W_189 g_b155
  have V_189 : Arv Z h_189 b155 k_155 .char (7 : Int32) [(.int c0), (.int c1), (.int c2), (.int c3), (.int c4), (.int c5), (.int c6)] (.int (0 : Int32)) := by
    have q := Arv.set Ar_189 ck_189 Sz_189 Ng_189 Hs_189 Gs_189 (fits_nar_char _) W_189 6 rfl (Nat.le_of_ble_eq_true rfl)
    rw [nar_lat l_c6] at q; exact q
  show Go p e below _ (T_189.setTop (mkF m 83 #[vR a1, vI 7, vR b155] []))
  refine Go.step (fun _ k => XS.iloadN X_189.here hx rfl (hb hby d_method_3_code_83) rfl  k) ?_
  refine Go.step (fun _ k => XS.bipush X_189.here hx rfl (hb hby d_method_3_code_84) k) ?_
  show Go p e below _ (T_189.setTop (mkF m 86 #[vR a1, vI 7, vR b155] [(.int (7 : Int32)), (.int (7 : Int32))]))
  refine Go.step (fun _ k => XS.icmpYes X_189.here hx rfl (pc0 := 86) (pc' := 97) rfl (hb hby d_method_3_code_86) rfl (flt ((by decide) : ¬ ((7 : Int32) < (7 : Int32)))).2.2.2 (by decide) (by decide) k) ?_
  show Go p e below _ (T_189.setTop (mkF m 97 #[vR a1, vI 7, vR b155] []))
  refine Go.step (fun _ k => XS.aloadN X_189.here hx rfl (hb hby d_method_3_code_97) rfl rfl k) ?_
  show Go p e below _ (T_189.setTop (mkF m 98 #[vR a1, vI 7, vR b155] [(.ref b155)]))
  exact Go.retV X_189 hx hlk hret rfl (Or.inr (Or.inr (Or.inr (Or.inr ⟨rfl, rfl, rfl⟩)))) (hb hby d_method_3_code_98) (by decide) (by decide) (by rw [e_189]; exact ⟨b155, k_155, rfl, N_189, KP_189, sz_b155, V_189⟩)
--@E
--@C copy8
def Q_copy8 (Z : State) (zc : Int32) (va : Addr) (kv : ClassId) (ea : Addr) (eb : Addr) (wa : Addr) (wb : Addr) (a1 : Addr) (k1 : ClassId) (c0 : Int32) (c1 : Int32) (c2 : Int32) (c3 : Int32) (c4 : Int32) (c5 : Int32) (c6 : Int32) (c7 : Int32) (h0 : Heap) (n0 : Nat) (v : Option Value) (h : Heap) (L : List Loc) : Prop := ∃ (r : Addr) (kr : ClassId), v = some (.ref r) ∧ Fr n0 L ∧ Keep h0 h [] ∧ h0.size ≤ r ∧ Arv Z h r kr .char (8 : Int32) [(.int c0), (.int c1), (.int c2), (.int c3), (.int c4), (.int c5), (.int c6), (.int c7)] (.int (0 : Int32))
set_option maxRecDepth 65536 in
set_option maxHeartbeats 40000000 in
theorem rm_copy8 (l : Launch) (Z : State) (a0 : Array Value) (hw : ∀ d ∈ tables_1, d.before a0 Z = true) (zc : Int32) (va : Addr) (kv : ClassId) (ea : Addr) (eb : Addr) (wa : Addr) (wb : Addr) (a1 : Addr) (k1 : ClassId) (c0 : Int32) (c1 : Int32) (c2 : Int32) (c3 : Int32) (c4 : Int32) (c5 : Int32) (c6 : Int32) (c7 : Int32) (h0 : Heap) (n0 : Nat) (Z0 : n0 ≤ h0.size) (A_a1 : Arv Z h0 a1 k1 .char (8 : Int32) [(.int c0), (.int c1), (.int c2), (.int c3), (.int c4), (.int c5), (.int c6), (.int c7)] (.int (0 : Int32))) (l_c0 : (¬ c0 < 0 ∧ ¬ (255 : Int32) < c0)) (l_c1 : (¬ c1 < 0 ∧ ¬ (255 : Int32) < c1)) (l_c2 : (¬ c2 < 0 ∧ ¬ (255 : Int32) < c2)) (l_c3 : (¬ c3 < 0 ∧ ¬ (255 : Int32) < c3)) (l_c4 : (¬ c4 < 0 ∧ ¬ (255 : Int32) < c4)) (l_c5 : (¬ c5 < 0 ∧ ¬ (255 : Int32) < c5)) (l_c6 : (¬ c6 < 0 ∧ ¬ (255 : Int32) < c6)) (l_c7 : (¬ c7 < 0 ∧ ¬ (255 : Int32) < c7)) (hSt : St Z zc va kv ea eb wa wb) (hO : Old Z n0 h0) :
    CN l Z ({ cls := "com/example/patient_ledger/patientledger/EntryTypeFromWireNamePinLaw", name := "copy", desc := "([CI)[C" } : Jvm.MethodName) [(Jvm.Cond.code ({ cls := "com/example/patient_ledger/patientledger/EntryTypeFromWireNamePinLaw", name := "copy", desc := "([CI)[C" } : Jvm.MethodName) method_3_code (3 : Nat) (Option.some (Jvm.ClassFile.FieldType.array Jvm.ClassFile.FieldType.char)))] ({ frames := 0, cells := 1, slots := 8, locals := 0 } : Room) #[(.ref a1), (.int (8 : Int32))] h0 (Q_copy8 Z zc va kv ea eb wa wb a1 k1 c0 c1 c2 c3 c4 c5 c6 c7 h0 n0) := by
  refine CN.of (L0 := #[vR a1, vI 8, vU]) (plainFor_of_name pn_2) (fun m => by first | (simp [entryFrame, mkF, argsToLocals, Value.category]; done) | rfl) ?_
  intro p e s m below meth c s₁ hx hby hml hret hlk hZ hown hnm X0 e0
  have N0 := Fr.nil n0
  have KP0 := Keep.refl h0 []
  have hSt_ := hSt
  obtain ⟨S_cs, n_cs, S_va, E_va, A_va, S_ea, F_ea, S_wa, S_eb, F_eb, S_wb⟩ := hSt_
  show Go p e below _ (s₁.setTop (mkF m 0 #[vR a1, vI 8, vU] []))
  refine Go.step (fun _ k => XS.iloadN X0.here hx rfl (hb hby d_method_3_code_0) rfl  k) ?_
  show Go p e below _ (s₁.setTop (mkF m 1 #[vR a1, vI 8, vU] [(.int (8 : Int32))]))
  obtain ⟨T_191, h_191, k_191, X_191, e_191, E_191, A_191, st_191⟩ := newP X0 hx hZ (aty := .char) (wd_0 hw) e0 (g := (mkF m 1 #[vR a1, vI 8, vU] [(.int (8 : Int32))])) rfl (hb hby d_method_3_code_1) rfl (by decide) (cap := 8) (by decide) (by decide) (by decide) (by decide)
  obtain ⟨b191, q_191⟩ : ∃ z, z = h0.size := ⟨_, rfl⟩
  rw [← q_191] at A_191 st_191
  refine Go.step st_191 ?_
  have le_191 : h0.size ≤ h_191.size := E_191.1
  have KP_191 := KP0.ext E_191
  have O_191 := hO.ext E_191
  have ge_191 : h0.size ≤ b191 := Nat.le_of_eq q_191.symm
  have sz_b191 : h0.size ≤ b191 := Nat.le_trans (Nat.le_refl _) ge_191
  have g_b191 : n0 ≤ b191 := Nat.le_trans Z0 sz_b191
  have V_191 : Arv Z h_191 b191 k_191 .char (8 : Int32) [(.int (0 : Int32)), (.int (0 : Int32)), (.int (0 : Int32)), (.int (0 : Int32)), (.int (0 : Int32)), (.int (0 : Int32)), (.int (0 : Int32)), (.int (0 : Int32))] (.int (0 : Int32)) := (Arv.new A_191 (by decide)).pad (pad_rep [] (.int (0 : Int32)) 8)
  show Go p e below _ (T_191.setTop (mkF m 3 #[vR a1, vI 8, vU] [(.ref b191)]))
  refine Go.step (fun _ k => XS.astoreN X_191.here hx rfl (hb hby d_method_3_code_3) rfl rfl (l' := #[vR a1, vI 8, vR b191]) rfl k) ?_
  show Go p e below _ (T_191.setTop (mkF m 4 #[vR a1, vI 8, vR b191] []))
  refine Go.step (fun _ k => XS.iloadN X_191.here hx rfl (hb hby d_method_3_code_4) rfl  k) ?_
  show Go p e below _ (T_191.setTop (mkF m 5 #[vR a1, vI 8, vR b191] [(.int (8 : Int32))]))
  refine Go.step (fun _ k => XS.ifNo X_191.here hx rfl (hb hby d_method_3_code_5) rfl ((if0 _ _).trans (tlt ((by decide) : (0 : Int32) < (8 : Int32))).2.2.2) k) ?_
  show Go p e below _ (T_191.setTop (mkF m 8 #[vR a1, vI 8, vR b191] []))
  refine Go.step (fun _ k => XS.aloadN X_191.here hx rfl (hb hby d_method_3_code_8) rfl rfl k) ?_
  refine Go.step (fun _ k => XS.iconst X_191.here hx rfl (hb hby d_method_3_code_9) k) ?_
  refine Go.step (fun _ k => XS.aloadN X_191.here hx rfl (hb hby d_method_3_code_10) rfl rfl k) ?_
  refine Go.step (fun _ k => XS.iconst X_191.here hx rfl (hb hby d_method_3_code_11) k) ?_
  show Go p e below _ (T_191.setTop (mkF m 12 #[vR a1, vI 8, vR b191] [(.int (0 : Int32)), (.ref a1), (.int (0 : Int32)), (.ref b191)]))
  have f193 : Arv Z h_191 a1 k1 .char (8 : Int32) [(.int c0), (.int c1), (.int c2), (.int c3), (.int c4), (.int c5), (.int c6), (.int c7)] (.int (0 : Int32)) := (A_a1.ext E_191)
  have cp194 := f193
  obtain ⟨cl_192, Ar_192, -, Sz_192, -, Hs_192, -⟩ := cp194
  have hin_192 : ¬ ((0 : Int32) < 0 ∨ cl_192.slots.size ≤ ((0 : Int32)).toNatClampNeg) := (inb_of Sz_192 ⟨by decide, by decide⟩)
  have hat_192 : cl_192.slots[((0 : Int32)).toNatClampNeg]? = some (.int c0) := (Hs_192.at (inb_of Sz_192 ⟨by decide, by decide⟩) rfl)
  refine Go.step (fun _ k => X_191.caload hx (j := (0 : Int32)) (v := (.int c0)) (by rw [e_191]; exact Ar_192.1) (State.isArrayOf_alike hZ.alike Ar_192.2.1) Ar_192.2.2 hin_192 hat_192 (g := (mkF m 12 #[vR a1, vI 8, vR b191] [(.int (0 : Int32)), (.ref a1), (.int (0 : Int32)), (.ref b191)])) rfl rfl (hb hby d_method_3_code_12) _ k) ?_
  show Go p e below _ (T_191.setTop (mkF m 13 #[vR a1, vI 8, vR b191] [(.int c0), (.int (0 : Int32)), (.ref b191)]))
  have cp196 := V_191
  obtain ⟨cl_195, Ar_195, ck_195, Sz_195, Ng_195, Hs_195, Gs_195⟩ := cp196
  have hin_195 : ¬ ((0 : Int32) < 0 ∨ cl_195.slots.size ≤ ((0 : Int32)).toNatClampNeg) := inb_of Sz_195 ⟨by decide, by decide⟩
  obtain ⟨T_195, h_195, X_195, e_195, W_195, st_195⟩ := stC X_191 hx hZ e_191 Ar_195 (j := (0 : Int32)) hin_195 (g := (mkF m 13 #[vR a1, vI 8, vR b191] [(.int c0), (.int (0 : Int32)), (.ref b191)])) rfl rfl (hb hby d_method_3_code_13)
  refine Go.step st_195 ?_
  have N_195 := Fr.snoc X_195 N0 g_b191
  have le_195 : h_191.size ≤ h_195.size := Nat.le_of_eq W_195.size.symm
  have KP_195 := KP_191.wr W_195 (Or.inr sz_b191)
  have O_195 := O_191.wr W_195 g_b191
  have V_195 : Arv Z h_195 b191 k_191 .char (8 : Int32) [(.int c0), (.int (0 : Int32)), (.int (0 : Int32)), (.int (0 : Int32)), (.int (0 : Int32)), (.int (0 : Int32)), (.int (0 : Int32)), (.int (0 : Int32))] (.int (0 : Int32)) := by
    have q := Arv.set Ar_195 ck_195 Sz_195 Ng_195 Hs_195 Gs_195 (fits_nar_char _) W_195 0 rfl (Nat.le_of_ble_eq_true rfl)
    rw [nar_lat l_c0] at q; exact q
  show Go p e below _ (T_195.setTop (mkF m 14 #[vR a1, vI 8, vR b191] []))
  refine Go.step (fun _ k => XS.iloadN X_195.here hx rfl (hb hby d_method_3_code_14) rfl  k) ?_
  refine Go.step (fun _ k => XS.iconst X_195.here hx rfl (hb hby d_method_3_code_15) k) ?_
  show Go p e below _ (T_195.setTop (mkF m 16 #[vR a1, vI 8, vR b191] [(.int (1 : Int32)), (.int (8 : Int32))]))
  refine Go.step (fun _ k => XS.icmpNo X_195.here hx rfl (hb hby d_method_3_code_16) rfl (tlt ((by decide) : (1 : Int32) < (8 : Int32))).2.2.2 k) ?_
  show Go p e below _ (T_195.setTop (mkF m 19 #[vR a1, vI 8, vR b191] []))
  refine Go.step (fun _ k => XS.aloadN X_195.here hx rfl (hb hby d_method_3_code_19) rfl rfl k) ?_
  refine Go.step (fun _ k => XS.iconst X_195.here hx rfl (hb hby d_method_3_code_20) k) ?_
  refine Go.step (fun _ k => XS.aloadN X_195.here hx rfl (hb hby d_method_3_code_21) rfl rfl k) ?_
  refine Go.step (fun _ k => XS.iconst X_195.here hx rfl (hb hby d_method_3_code_22) k) ?_
  show Go p e below _ (T_195.setTop (mkF m 23 #[vR a1, vI 8, vR b191] [(.int (1 : Int32)), (.ref a1), (.int (1 : Int32)), (.ref b191)]))
  have f198 : Arv Z h_195 a1 k1 .char (8 : Int32) [(.int c0), (.int c1), (.int c2), (.int c3), (.int c4), (.int c5), (.int c6), (.int c7)] (.int (0 : Int32)) := (f193.other W_195 (Nat.ne_of_lt (Nat.lt_of_lt_of_le A_a1.lt (Nat.le_trans (Nat.le_refl _) ge_191))))
  have cp199 := f198
  obtain ⟨cl_197, Ar_197, -, Sz_197, -, Hs_197, -⟩ := cp199
  have hin_197 : ¬ ((1 : Int32) < 0 ∨ cl_197.slots.size ≤ ((1 : Int32)).toNatClampNeg) := (inb_of Sz_197 ⟨by decide, by decide⟩)
  have hat_197 : cl_197.slots[((1 : Int32)).toNatClampNeg]? = some (.int c1) := (Hs_197.at (inb_of Sz_197 ⟨by decide, by decide⟩) rfl)
  refine Go.step (fun _ k => X_195.caload hx (j := (1 : Int32)) (v := (.int c1)) (by rw [e_195]; exact Ar_197.1) (State.isArrayOf_alike hZ.alike Ar_197.2.1) Ar_197.2.2 hin_197 hat_197 (g := (mkF m 23 #[vR a1, vI 8, vR b191] [(.int (1 : Int32)), (.ref a1), (.int (1 : Int32)), (.ref b191)])) rfl rfl (hb hby d_method_3_code_23) _ k) ?_
  show Go p e below _ (T_195.setTop (mkF m 24 #[vR a1, vI 8, vR b191] [(.int c1), (.int (1 : Int32)), (.ref b191)]))
  have cp201 := V_195
  obtain ⟨cl_200, Ar_200, ck_200, Sz_200, Ng_200, Hs_200, Gs_200⟩ := cp201
  have hin_200 : ¬ ((1 : Int32) < 0 ∨ cl_200.slots.size ≤ ((1 : Int32)).toNatClampNeg) := inb_of Sz_200 ⟨by decide, by decide⟩
  obtain ⟨T_200, h_200, X_200, e_200, W_200, st_200⟩ := stC X_195 hx hZ e_195 Ar_200 (j := (1 : Int32)) hin_200 (g := (mkF m 24 #[vR a1, vI 8, vR b191] [(.int c1), (.int (1 : Int32)), (.ref b191)])) rfl rfl (hb hby d_method_3_code_24)
  refine Go.step st_200 ?_
  have N_200 := Fr.snoc X_200 N_195 g_b191
  have le_200 : h_195.size ≤ h_200.size := Nat.le_of_eq W_200.size.symm
  have KP_200 := KP_195.wr W_200 (Or.inr sz_b191)
  have O_200 := O_195.wr W_200 g_b191
  have V_200 : Arv Z h_200 b191 k_191 .char (8 : Int32) [(.int c0), (.int c1), (.int (0 : Int32)), (.int (0 : Int32)), (.int (0 : Int32)), (.int (0 : Int32)), (.int (0 : Int32)), (.int (0 : Int32))] (.int (0 : Int32)) := by
    have q := Arv.set Ar_200 ck_200 Sz_200 Ng_200 Hs_200 Gs_200 (fits_nar_char _) W_200 1 rfl (Nat.le_of_ble_eq_true rfl)
    rw [nar_lat l_c1] at q; exact q
  show Go p e below _ (T_200.setTop (mkF m 25 #[vR a1, vI 8, vR b191] []))
  refine Go.step (fun _ k => XS.iloadN X_200.here hx rfl (hb hby d_method_3_code_25) rfl  k) ?_
  refine Go.step (fun _ k => XS.iconst X_200.here hx rfl (hb hby d_method_3_code_26) k) ?_
  show Go p e below _ (T_200.setTop (mkF m 27 #[vR a1, vI 8, vR b191] [(.int (2 : Int32)), (.int (8 : Int32))]))
  refine Go.step (fun _ k => XS.icmpNo X_200.here hx rfl (hb hby d_method_3_code_27) rfl (tlt ((by decide) : (2 : Int32) < (8 : Int32))).2.2.2 k) ?_
  show Go p e below _ (T_200.setTop (mkF m 30 #[vR a1, vI 8, vR b191] []))
  refine Go.step (fun _ k => XS.aloadN X_200.here hx rfl (hb hby d_method_3_code_30) rfl rfl k) ?_
  refine Go.step (fun _ k => XS.iconst X_200.here hx rfl (hb hby d_method_3_code_31) k) ?_
  refine Go.step (fun _ k => XS.aloadN X_200.here hx rfl (hb hby d_method_3_code_32) rfl rfl k) ?_
  refine Go.step (fun _ k => XS.iconst X_200.here hx rfl (hb hby d_method_3_code_33) k) ?_
  show Go p e below _ (T_200.setTop (mkF m 34 #[vR a1, vI 8, vR b191] [(.int (2 : Int32)), (.ref a1), (.int (2 : Int32)), (.ref b191)]))
  have f203 : Arv Z h_200 a1 k1 .char (8 : Int32) [(.int c0), (.int c1), (.int c2), (.int c3), (.int c4), (.int c5), (.int c6), (.int c7)] (.int (0 : Int32)) := (f198.other W_200 (Nat.ne_of_lt (Nat.lt_of_lt_of_le A_a1.lt (Nat.le_trans (Nat.le_refl _) ge_191))))
  have cp204 := f203
  obtain ⟨cl_202, Ar_202, -, Sz_202, -, Hs_202, -⟩ := cp204
  have hin_202 : ¬ ((2 : Int32) < 0 ∨ cl_202.slots.size ≤ ((2 : Int32)).toNatClampNeg) := (inb_of Sz_202 ⟨by decide, by decide⟩)
  have hat_202 : cl_202.slots[((2 : Int32)).toNatClampNeg]? = some (.int c2) := (Hs_202.at (inb_of Sz_202 ⟨by decide, by decide⟩) rfl)
  refine Go.step (fun _ k => X_200.caload hx (j := (2 : Int32)) (v := (.int c2)) (by rw [e_200]; exact Ar_202.1) (State.isArrayOf_alike hZ.alike Ar_202.2.1) Ar_202.2.2 hin_202 hat_202 (g := (mkF m 34 #[vR a1, vI 8, vR b191] [(.int (2 : Int32)), (.ref a1), (.int (2 : Int32)), (.ref b191)])) rfl rfl (hb hby d_method_3_code_34) _ k) ?_
  show Go p e below _ (T_200.setTop (mkF m 35 #[vR a1, vI 8, vR b191] [(.int c2), (.int (2 : Int32)), (.ref b191)]))
  have cp206 := V_200
  obtain ⟨cl_205, Ar_205, ck_205, Sz_205, Ng_205, Hs_205, Gs_205⟩ := cp206
  have hin_205 : ¬ ((2 : Int32) < 0 ∨ cl_205.slots.size ≤ ((2 : Int32)).toNatClampNeg) := inb_of Sz_205 ⟨by decide, by decide⟩
  obtain ⟨T_205, h_205, X_205, e_205, W_205, st_205⟩ := stC X_200 hx hZ e_200 Ar_205 (j := (2 : Int32)) hin_205 (g := (mkF m 35 #[vR a1, vI 8, vR b191] [(.int c2), (.int (2 : Int32)), (.ref b191)])) rfl rfl (hb hby d_method_3_code_35)
  refine Go.step st_205 ?_
  have N_205 := Fr.snoc X_205 N_200 g_b191
  have le_205 : h_200.size ≤ h_205.size := Nat.le_of_eq W_205.size.symm
  have KP_205 := KP_200.wr W_205 (Or.inr sz_b191)
  have O_205 := O_200.wr W_205 g_b191
  have V_205 : Arv Z h_205 b191 k_191 .char (8 : Int32) [(.int c0), (.int c1), (.int c2), (.int (0 : Int32)), (.int (0 : Int32)), (.int (0 : Int32)), (.int (0 : Int32)), (.int (0 : Int32))] (.int (0 : Int32)) := by
    have q := Arv.set Ar_205 ck_205 Sz_205 Ng_205 Hs_205 Gs_205 (fits_nar_char _) W_205 2 rfl (Nat.le_of_ble_eq_true rfl)
    rw [nar_lat l_c2] at q; exact q
  show Go p e below _ (T_205.setTop (mkF m 36 #[vR a1, vI 8, vR b191] []))
  refine Go.step (fun _ k => XS.iloadN X_205.here hx rfl (hb hby d_method_3_code_36) rfl  k) ?_
  refine Go.step (fun _ k => XS.iconst X_205.here hx rfl (hb hby d_method_3_code_37) k) ?_
  show Go p e below _ (T_205.setTop (mkF m 38 #[vR a1, vI 8, vR b191] [(.int (3 : Int32)), (.int (8 : Int32))]))
  refine Go.step (fun _ k => XS.icmpNo X_205.here hx rfl (hb hby d_method_3_code_38) rfl (tlt ((by decide) : (3 : Int32) < (8 : Int32))).2.2.2 k) ?_
  show Go p e below _ (T_205.setTop (mkF m 41 #[vR a1, vI 8, vR b191] []))
  refine Go.step (fun _ k => XS.aloadN X_205.here hx rfl (hb hby d_method_3_code_41) rfl rfl k) ?_
  refine Go.step (fun _ k => XS.iconst X_205.here hx rfl (hb hby d_method_3_code_42) k) ?_
  refine Go.step (fun _ k => XS.aloadN X_205.here hx rfl (hb hby d_method_3_code_43) rfl rfl k) ?_
  refine Go.step (fun _ k => XS.iconst X_205.here hx rfl (hb hby d_method_3_code_44) k) ?_
  show Go p e below _ (T_205.setTop (mkF m 45 #[vR a1, vI 8, vR b191] [(.int (3 : Int32)), (.ref a1), (.int (3 : Int32)), (.ref b191)]))
  have f208 : Arv Z h_205 a1 k1 .char (8 : Int32) [(.int c0), (.int c1), (.int c2), (.int c3), (.int c4), (.int c5), (.int c6), (.int c7)] (.int (0 : Int32)) := (f203.other W_205 (Nat.ne_of_lt (Nat.lt_of_lt_of_le A_a1.lt (Nat.le_trans (Nat.le_refl _) ge_191))))
  have cp209 := f208
  obtain ⟨cl_207, Ar_207, -, Sz_207, -, Hs_207, -⟩ := cp209
  have hin_207 : ¬ ((3 : Int32) < 0 ∨ cl_207.slots.size ≤ ((3 : Int32)).toNatClampNeg) := (inb_of Sz_207 ⟨by decide, by decide⟩)
  have hat_207 : cl_207.slots[((3 : Int32)).toNatClampNeg]? = some (.int c3) := (Hs_207.at (inb_of Sz_207 ⟨by decide, by decide⟩) rfl)
  refine Go.step (fun _ k => X_205.caload hx (j := (3 : Int32)) (v := (.int c3)) (by rw [e_205]; exact Ar_207.1) (State.isArrayOf_alike hZ.alike Ar_207.2.1) Ar_207.2.2 hin_207 hat_207 (g := (mkF m 45 #[vR a1, vI 8, vR b191] [(.int (3 : Int32)), (.ref a1), (.int (3 : Int32)), (.ref b191)])) rfl rfl (hb hby d_method_3_code_45) _ k) ?_
  show Go p e below _ (T_205.setTop (mkF m 46 #[vR a1, vI 8, vR b191] [(.int c3), (.int (3 : Int32)), (.ref b191)]))
  have cp211 := V_205
  obtain ⟨cl_210, Ar_210, ck_210, Sz_210, Ng_210, Hs_210, Gs_210⟩ := cp211
  have hin_210 : ¬ ((3 : Int32) < 0 ∨ cl_210.slots.size ≤ ((3 : Int32)).toNatClampNeg) := inb_of Sz_210 ⟨by decide, by decide⟩
  obtain ⟨T_210, h_210, X_210, e_210, W_210, st_210⟩ := stC X_205 hx hZ e_205 Ar_210 (j := (3 : Int32)) hin_210 (g := (mkF m 46 #[vR a1, vI 8, vR b191] [(.int c3), (.int (3 : Int32)), (.ref b191)])) rfl rfl (hb hby d_method_3_code_46)
  refine Go.step st_210 ?_
  have N_210 := Fr.snoc X_210 N_205 g_b191
  have le_210 : h_205.size ≤ h_210.size := Nat.le_of_eq W_210.size.symm
  have KP_210 := KP_205.wr W_210 (Or.inr sz_b191)
  have O_210 := O_205.wr W_210 g_b191
  have V_210 : Arv Z h_210 b191 k_191 .char (8 : Int32) [(.int c0), (.int c1), (.int c2), (.int c3), (.int (0 : Int32)), (.int (0 : Int32)), (.int (0 : Int32)), (.int (0 : Int32))] (.int (0 : Int32)) := by
    have q := Arv.set Ar_210 ck_210 Sz_210 Ng_210 Hs_210 Gs_210 (fits_nar_char _) W_210 3 rfl (Nat.le_of_ble_eq_true rfl)
    rw [nar_lat l_c3] at q; exact q
  show Go p e below _ (T_210.setTop (mkF m 47 #[vR a1, vI 8, vR b191] []))
  refine Go.step (fun _ k => XS.iloadN X_210.here hx rfl (hb hby d_method_3_code_47) rfl  k) ?_
  refine Go.step (fun _ k => XS.iconst X_210.here hx rfl (hb hby d_method_3_code_48) k) ?_
  show Go p e below _ (T_210.setTop (mkF m 49 #[vR a1, vI 8, vR b191] [(.int (4 : Int32)), (.int (8 : Int32))]))
  refine Go.step (fun _ k => XS.icmpNo X_210.here hx rfl (hb hby d_method_3_code_49) rfl (tlt ((by decide) : (4 : Int32) < (8 : Int32))).2.2.2 k) ?_
  show Go p e below _ (T_210.setTop (mkF m 52 #[vR a1, vI 8, vR b191] []))
  refine Go.step (fun _ k => XS.aloadN X_210.here hx rfl (hb hby d_method_3_code_52) rfl rfl k) ?_
  refine Go.step (fun _ k => XS.iconst X_210.here hx rfl (hb hby d_method_3_code_53) k) ?_
  refine Go.step (fun _ k => XS.aloadN X_210.here hx rfl (hb hby d_method_3_code_54) rfl rfl k) ?_
  refine Go.step (fun _ k => XS.iconst X_210.here hx rfl (hb hby d_method_3_code_55) k) ?_
  show Go p e below _ (T_210.setTop (mkF m 56 #[vR a1, vI 8, vR b191] [(.int (4 : Int32)), (.ref a1), (.int (4 : Int32)), (.ref b191)]))
  have f213 : Arv Z h_210 a1 k1 .char (8 : Int32) [(.int c0), (.int c1), (.int c2), (.int c3), (.int c4), (.int c5), (.int c6), (.int c7)] (.int (0 : Int32)) := (f208.other W_210 (Nat.ne_of_lt (Nat.lt_of_lt_of_le A_a1.lt (Nat.le_trans (Nat.le_refl _) ge_191))))
  have cp214 := f213
  obtain ⟨cl_212, Ar_212, -, Sz_212, -, Hs_212, -⟩ := cp214
  have hin_212 : ¬ ((4 : Int32) < 0 ∨ cl_212.slots.size ≤ ((4 : Int32)).toNatClampNeg) := (inb_of Sz_212 ⟨by decide, by decide⟩)
  have hat_212 : cl_212.slots[((4 : Int32)).toNatClampNeg]? = some (.int c4) := (Hs_212.at (inb_of Sz_212 ⟨by decide, by decide⟩) rfl)
  refine Go.step (fun _ k => X_210.caload hx (j := (4 : Int32)) (v := (.int c4)) (by rw [e_210]; exact Ar_212.1) (State.isArrayOf_alike hZ.alike Ar_212.2.1) Ar_212.2.2 hin_212 hat_212 (g := (mkF m 56 #[vR a1, vI 8, vR b191] [(.int (4 : Int32)), (.ref a1), (.int (4 : Int32)), (.ref b191)])) rfl rfl (hb hby d_method_3_code_56) _ k) ?_
  show Go p e below _ (T_210.setTop (mkF m 57 #[vR a1, vI 8, vR b191] [(.int c4), (.int (4 : Int32)), (.ref b191)]))
  have cp216 := V_210
  obtain ⟨cl_215, Ar_215, ck_215, Sz_215, Ng_215, Hs_215, Gs_215⟩ := cp216
  have hin_215 : ¬ ((4 : Int32) < 0 ∨ cl_215.slots.size ≤ ((4 : Int32)).toNatClampNeg) := inb_of Sz_215 ⟨by decide, by decide⟩
  obtain ⟨T_215, h_215, X_215, e_215, W_215, st_215⟩ := stC X_210 hx hZ e_210 Ar_215 (j := (4 : Int32)) hin_215 (g := (mkF m 57 #[vR a1, vI 8, vR b191] [(.int c4), (.int (4 : Int32)), (.ref b191)])) rfl rfl (hb hby d_method_3_code_57)
  refine Go.step st_215 ?_
  have N_215 := Fr.snoc X_215 N_210 g_b191
  have le_215 : h_210.size ≤ h_215.size := Nat.le_of_eq W_215.size.symm
  have KP_215 := KP_210.wr W_215 (Or.inr sz_b191)
  have O_215 := O_210.wr W_215 g_b191
  have V_215 : Arv Z h_215 b191 k_191 .char (8 : Int32) [(.int c0), (.int c1), (.int c2), (.int c3), (.int c4), (.int (0 : Int32)), (.int (0 : Int32)), (.int (0 : Int32))] (.int (0 : Int32)) := by
    have q := Arv.set Ar_215 ck_215 Sz_215 Ng_215 Hs_215 Gs_215 (fits_nar_char _) W_215 4 rfl (Nat.le_of_ble_eq_true rfl)
    rw [nar_lat l_c4] at q; exact q
  show Go p e below _ (T_215.setTop (mkF m 58 #[vR a1, vI 8, vR b191] []))
  refine Go.step (fun _ k => XS.iloadN X_215.here hx rfl (hb hby d_method_3_code_58) rfl  k) ?_
  refine Go.step (fun _ k => XS.iconst X_215.here hx rfl (hb hby d_method_3_code_59) k) ?_
  show Go p e below _ (T_215.setTop (mkF m 60 #[vR a1, vI 8, vR b191] [(.int (5 : Int32)), (.int (8 : Int32))]))
  refine Go.step (fun _ k => XS.icmpNo X_215.here hx rfl (hb hby d_method_3_code_60) rfl (tlt ((by decide) : (5 : Int32) < (8 : Int32))).2.2.2 k) ?_
  show Go p e below _ (T_215.setTop (mkF m 63 #[vR a1, vI 8, vR b191] []))
  refine Go.step (fun _ k => XS.aloadN X_215.here hx rfl (hb hby d_method_3_code_63) rfl rfl k) ?_
  refine Go.step (fun _ k => XS.iconst X_215.here hx rfl (hb hby d_method_3_code_64) k) ?_
  refine Go.step (fun _ k => XS.aloadN X_215.here hx rfl (hb hby d_method_3_code_65) rfl rfl k) ?_
  refine Go.step (fun _ k => XS.iconst X_215.here hx rfl (hb hby d_method_3_code_66) k) ?_
  show Go p e below _ (T_215.setTop (mkF m 67 #[vR a1, vI 8, vR b191] [(.int (5 : Int32)), (.ref a1), (.int (5 : Int32)), (.ref b191)]))
  have f218 : Arv Z h_215 a1 k1 .char (8 : Int32) [(.int c0), (.int c1), (.int c2), (.int c3), (.int c4), (.int c5), (.int c6), (.int c7)] (.int (0 : Int32)) := (f213.other W_215 (Nat.ne_of_lt (Nat.lt_of_lt_of_le A_a1.lt (Nat.le_trans (Nat.le_refl _) ge_191))))
  have cp219 := f218
  obtain ⟨cl_217, Ar_217, -, Sz_217, -, Hs_217, -⟩ := cp219
  have hin_217 : ¬ ((5 : Int32) < 0 ∨ cl_217.slots.size ≤ ((5 : Int32)).toNatClampNeg) := (inb_of Sz_217 ⟨by decide, by decide⟩)
  have hat_217 : cl_217.slots[((5 : Int32)).toNatClampNeg]? = some (.int c5) := (Hs_217.at (inb_of Sz_217 ⟨by decide, by decide⟩) rfl)
  refine Go.step (fun _ k => X_215.caload hx (j := (5 : Int32)) (v := (.int c5)) (by rw [e_215]; exact Ar_217.1) (State.isArrayOf_alike hZ.alike Ar_217.2.1) Ar_217.2.2 hin_217 hat_217 (g := (mkF m 67 #[vR a1, vI 8, vR b191] [(.int (5 : Int32)), (.ref a1), (.int (5 : Int32)), (.ref b191)])) rfl rfl (hb hby d_method_3_code_67) _ k) ?_
  show Go p e below _ (T_215.setTop (mkF m 68 #[vR a1, vI 8, vR b191] [(.int c5), (.int (5 : Int32)), (.ref b191)]))
  have cp221 := V_215
  obtain ⟨cl_220, Ar_220, ck_220, Sz_220, Ng_220, Hs_220, Gs_220⟩ := cp221
  have hin_220 : ¬ ((5 : Int32) < 0 ∨ cl_220.slots.size ≤ ((5 : Int32)).toNatClampNeg) := inb_of Sz_220 ⟨by decide, by decide⟩
  obtain ⟨T_220, h_220, X_220, e_220, W_220, st_220⟩ := stC X_215 hx hZ e_215 Ar_220 (j := (5 : Int32)) hin_220 (g := (mkF m 68 #[vR a1, vI 8, vR b191] [(.int c5), (.int (5 : Int32)), (.ref b191)])) rfl rfl (hb hby d_method_3_code_68)
  refine Go.step st_220 ?_
  have N_220 := Fr.snoc X_220 N_215 g_b191
  have le_220 : h_215.size ≤ h_220.size := Nat.le_of_eq W_220.size.symm
  have KP_220 := KP_215.wr W_220 (Or.inr sz_b191)
  have O_220 := O_215.wr W_220 g_b191
  have V_220 : Arv Z h_220 b191 k_191 .char (8 : Int32) [(.int c0), (.int c1), (.int c2), (.int c3), (.int c4), (.int c5), (.int (0 : Int32)), (.int (0 : Int32))] (.int (0 : Int32)) := by
    have q := Arv.set Ar_220 ck_220 Sz_220 Ng_220 Hs_220 Gs_220 (fits_nar_char _) W_220 5 rfl (Nat.le_of_ble_eq_true rfl)
    rw [nar_lat l_c5] at q; exact q
  show Go p e below _ (T_220.setTop (mkF m 69 #[vR a1, vI 8, vR b191] []))
  refine Go.step (fun _ k => XS.iloadN X_220.here hx rfl (hb hby d_method_3_code_69) rfl  k) ?_
  refine Go.step (fun _ k => XS.bipush X_220.here hx rfl (hb hby d_method_3_code_70) k) ?_
  show Go p e below _ (T_220.setTop (mkF m 72 #[vR a1, vI 8, vR b191] [(.int (6 : Int32)), (.int (8 : Int32))]))
  refine Go.step (fun _ k => XS.icmpNo X_220.here hx rfl (hb hby d_method_3_code_72) rfl (tlt ((by decide) : (6 : Int32) < (8 : Int32))).2.2.2 k) ?_
  show Go p e below _ (T_220.setTop (mkF m 75 #[vR a1, vI 8, vR b191] []))
  refine Go.step (fun _ k => XS.aloadN X_220.here hx rfl (hb hby d_method_3_code_75) rfl rfl k) ?_
  refine Go.step (fun _ k => XS.bipush X_220.here hx rfl (hb hby d_method_3_code_76) k) ?_
  refine Go.step (fun _ k => XS.aloadN X_220.here hx rfl (hb hby d_method_3_code_78) rfl rfl k) ?_
  refine Go.step (fun _ k => XS.bipush X_220.here hx rfl (hb hby d_method_3_code_79) k) ?_
  show Go p e below _ (T_220.setTop (mkF m 81 #[vR a1, vI 8, vR b191] [(.int (6 : Int32)), (.ref a1), (.int (6 : Int32)), (.ref b191)]))
  have f223 : Arv Z h_220 a1 k1 .char (8 : Int32) [(.int c0), (.int c1), (.int c2), (.int c3), (.int c4), (.int c5), (.int c6), (.int c7)] (.int (0 : Int32)) := (f218.other W_220 (Nat.ne_of_lt (Nat.lt_of_lt_of_le A_a1.lt (Nat.le_trans (Nat.le_refl _) ge_191))))
  have cp224 := f223
  obtain ⟨cl_222, Ar_222, -, Sz_222, -, Hs_222, -⟩ := cp224
  have hin_222 : ¬ ((6 : Int32) < 0 ∨ cl_222.slots.size ≤ ((6 : Int32)).toNatClampNeg) := (inb_of Sz_222 ⟨by decide, by decide⟩)
  have hat_222 : cl_222.slots[((6 : Int32)).toNatClampNeg]? = some (.int c6) := (Hs_222.at (inb_of Sz_222 ⟨by decide, by decide⟩) rfl)
  refine Go.step (fun _ k => X_220.caload hx (j := (6 : Int32)) (v := (.int c6)) (by rw [e_220]; exact Ar_222.1) (State.isArrayOf_alike hZ.alike Ar_222.2.1) Ar_222.2.2 hin_222 hat_222 (g := (mkF m 81 #[vR a1, vI 8, vR b191] [(.int (6 : Int32)), (.ref a1), (.int (6 : Int32)), (.ref b191)])) rfl rfl (hb hby d_method_3_code_81) _ k) ?_
  show Go p e below _ (T_220.setTop (mkF m 82 #[vR a1, vI 8, vR b191] [(.int c6), (.int (6 : Int32)), (.ref b191)]))
  have cp226 := V_220
  obtain ⟨cl_225, Ar_225, ck_225, Sz_225, Ng_225, Hs_225, Gs_225⟩ := cp226
  have hin_225 : ¬ ((6 : Int32) < 0 ∨ cl_225.slots.size ≤ ((6 : Int32)).toNatClampNeg) := inb_of Sz_225 ⟨by decide, by decide⟩
  obtain ⟨T_225, h_225, X_225, e_225, W_225, st_225⟩ := stC X_220 hx hZ e_220 Ar_225 (j := (6 : Int32)) hin_225 (g := (mkF m 82 #[vR a1, vI 8, vR b191] [(.int c6), (.int (6 : Int32)), (.ref b191)])) rfl rfl (hb hby d_method_3_code_82)
  refine Go.step st_225 ?_
  have N_225 := Fr.snoc X_225 N_220 g_b191
  have le_225 : h_220.size ≤ h_225.size := Nat.le_of_eq W_225.size.symm
  have KP_225 := KP_220.wr W_225 (Or.inr sz_b191)
  have O_225 := O_220.wr W_225 g_b191
  have V_225 : Arv Z h_225 b191 k_191 .char (8 : Int32) [(.int c0), (.int c1), (.int c2), (.int c3), (.int c4), (.int c5), (.int c6), (.int (0 : Int32))] (.int (0 : Int32)) := by
    have q := Arv.set Ar_225 ck_225 Sz_225 Ng_225 Hs_225 Gs_225 (fits_nar_char _) W_225 6 rfl (Nat.le_of_ble_eq_true rfl)
    rw [nar_lat l_c6] at q; exact q
  show Go p e below _ (T_225.setTop (mkF m 83 #[vR a1, vI 8, vR b191] []))
  refine Go.step (fun _ k => XS.iloadN X_225.here hx rfl (hb hby d_method_3_code_83) rfl  k) ?_
  refine Go.step (fun _ k => XS.bipush X_225.here hx rfl (hb hby d_method_3_code_84) k) ?_
  show Go p e below _ (T_225.setTop (mkF m 86 #[vR a1, vI 8, vR b191] [(.int (7 : Int32)), (.int (8 : Int32))]))
  refine Go.step (fun _ k => XS.icmpNo X_225.here hx rfl (hb hby d_method_3_code_86) rfl (tlt ((by decide) : (7 : Int32) < (8 : Int32))).2.2.2 k) ?_
  show Go p e below _ (T_225.setTop (mkF m 89 #[vR a1, vI 8, vR b191] []))
  refine Go.step (fun _ k => XS.aloadN X_225.here hx rfl (hb hby d_method_3_code_89) rfl rfl k) ?_
  refine Go.step (fun _ k => XS.bipush X_225.here hx rfl (hb hby d_method_3_code_90) k) ?_
  refine Go.step (fun _ k => XS.aloadN X_225.here hx rfl (hb hby d_method_3_code_92) rfl rfl k) ?_
  refine Go.step (fun _ k => XS.bipush X_225.here hx rfl (hb hby d_method_3_code_93) k) ?_
  show Go p e below _ (T_225.setTop (mkF m 95 #[vR a1, vI 8, vR b191] [(.int (7 : Int32)), (.ref a1), (.int (7 : Int32)), (.ref b191)]))
  have f228 : Arv Z h_225 a1 k1 .char (8 : Int32) [(.int c0), (.int c1), (.int c2), (.int c3), (.int c4), (.int c5), (.int c6), (.int c7)] (.int (0 : Int32)) := (f223.other W_225 (Nat.ne_of_lt (Nat.lt_of_lt_of_le A_a1.lt (Nat.le_trans (Nat.le_refl _) ge_191))))
  have cp229 := f228
  obtain ⟨cl_227, Ar_227, -, Sz_227, -, Hs_227, -⟩ := cp229
  have hin_227 : ¬ ((7 : Int32) < 0 ∨ cl_227.slots.size ≤ ((7 : Int32)).toNatClampNeg) := (inb_of Sz_227 ⟨by decide, by decide⟩)
  have hat_227 : cl_227.slots[((7 : Int32)).toNatClampNeg]? = some (.int c7) := (Hs_227.at (inb_of Sz_227 ⟨by decide, by decide⟩) rfl)
  refine Go.step (fun _ k => X_225.caload hx (j := (7 : Int32)) (v := (.int c7)) (by rw [e_225]; exact Ar_227.1) (State.isArrayOf_alike hZ.alike Ar_227.2.1) Ar_227.2.2 hin_227 hat_227 (g := (mkF m 95 #[vR a1, vI 8, vR b191] [(.int (7 : Int32)), (.ref a1), (.int (7 : Int32)), (.ref b191)])) rfl rfl (hb hby d_method_3_code_95) _ k) ?_
  show Go p e below _ (T_225.setTop (mkF m 96 #[vR a1, vI 8, vR b191] [(.int c7), (.int (7 : Int32)), (.ref b191)]))
  have cp231 := V_225
  obtain ⟨cl_230, Ar_230, ck_230, Sz_230, Ng_230, Hs_230, Gs_230⟩ := cp231
  have hin_230 : ¬ ((7 : Int32) < 0 ∨ cl_230.slots.size ≤ ((7 : Int32)).toNatClampNeg) := inb_of Sz_230 ⟨by decide, by decide⟩
  obtain ⟨T_230, h_230, X_230, e_230, W_230, st_230⟩ := stC X_225 hx hZ e_225 Ar_230 (j := (7 : Int32)) hin_230 (g := (mkF m 96 #[vR a1, vI 8, vR b191] [(.int c7), (.int (7 : Int32)), (.ref b191)])) rfl rfl (hb hby d_method_3_code_96)
  refine Go.step st_230 ?_
  have N_230 := Fr.snoc X_230 N_225 g_b191
  have le_230 : h_225.size ≤ h_230.size := Nat.le_of_eq W_230.size.symm
  have KP_230 := KP_225.wr W_230 (Or.inr sz_b191)
  have O_230 := O_225.wr W_230 g_b191
  have V_230 : Arv Z h_230 b191 k_191 .char (8 : Int32) [(.int c0), (.int c1), (.int c2), (.int c3), (.int c4), (.int c5), (.int c6), (.int c7)] (.int (0 : Int32)) := by
    have q := Arv.set Ar_230 ck_230 Sz_230 Ng_230 Hs_230 Gs_230 (fits_nar_char _) W_230 7 rfl (Nat.le_of_ble_eq_true rfl)
    rw [nar_lat l_c7] at q; exact q
  show Go p e below _ (T_230.setTop (mkF m 97 #[vR a1, vI 8, vR b191] []))
  refine Go.step (fun _ k => XS.aloadN X_230.here hx rfl (hb hby d_method_3_code_97) rfl rfl k) ?_
  show Go p e below _ (T_230.setTop (mkF m 98 #[vR a1, vI 8, vR b191] [(.ref b191)]))
  exact Go.retV X_230 hx hlk hret rfl (Or.inr (Or.inr (Or.inr (Or.inr ⟨rfl, rfl, rfl⟩)))) (hb hby d_method_3_code_98) (by decide) (by decide) (by rw [e_230]; exact ⟨b191, k_191, rfl, N_230, KP_230, sz_b191, V_230⟩)
--@E
--@C init4e
def Q_init4e (Z : State) (zc : Int32) (va : Addr) (kv : ClassId) (ea : Addr) (eb : Addr) (wa : Addr) (wb : Addr) (a1 : Addr) (a2 : Addr) (h0 : Heap) (n0 : Nat) (v : Option Value) (h : Heap) (L : List Loc) : Prop := v = none ∧ Fr n0 L ∧ Keep h0 h [a1] ∧ Str Z h.size h a1 ([] : List Int32)
set_option maxRecDepth 65536 in
set_option maxHeartbeats 40000000 in
theorem rm_init4e (l : Launch) (Z : State) (a0 : Array Value) (hw : ∀ d ∈ tables_1, d.before a0 Z = true) (zc : Int32) (va : Addr) (kv : ClassId) (ea : Addr) (eb : Addr) (wa : Addr) (wb : Addr) (a1 : Addr) (a2 : Addr) (h0 : Heap) (n0 : Nat) (Z0 : n0 ≤ h0.size) (E_a1 : Exa Z h0 a1 "java/lang/String") (F_a1v : Fld Z h0 a1 "java/lang/String" "value" "[B" .null) (F_a1c : Fld Z h0 a1 "java/lang/String" "coder" "B" (.int (0 : Int32))) (g_a1 : n0 ≤ a1) (hSt : St Z zc va kv ea eb wa wb) (hO : Old Z n0 h0) :
    CW l Z EL ({ cls := "java/lang/String", name := "<init>", desc := "([CIILjava/lang/Void;)V" } : Jvm.MethodName) [(Jvm.Cond.code ({ cls := "java/lang/String", name := "<init>", desc := "([CIILjava/lang/Void;)V" } : Jvm.MethodName) jdk_42_method_149_code (6 : Nat) (Option.none : Option Jvm.ClassFile.FieldType))] ({ frames := 1, cells := 4, slots := 8, locals := 12 } : Room) #[(.ref a1), (.ref a2), (.int (0 : Int32)), (.int (0 : Int32)), .null] h0 (Q_init4e Z zc va kv ea eb wa wb a1 a2 h0 n0) := by
  refine CW.of (L0 := #[vR a1, vR a2, vI 0, vI 0, .val .null, vU]) (plainFor_of_name pn_1) (fun m => by first | (simp [entryFrame, mkF, argsToLocals, Value.category]; done) | rfl) ?_
  intro p e s m below meth c s₁ hx hby hml hret hlk hZ hown hnm X0 e0 hS0 hk0 CV0 hh0
  have hEL := hEL_ (a0 := a0) hw
  have hwS := hwS_ hw
  have N0 := Fr.nil n0
  have KP0 := Keep.refl h0 [a1]
  have hSt_ := hSt
  obtain ⟨S_cs, n_cs, S_va, E_va, A_va, S_ea, F_ea, S_wa, S_eb, F_eb, S_wb⟩ := hSt_
  have Sf_a1 : Safe Z EL s.vm h0 a1 := own_safe_null hZ.alike E_a1 F_a1v (wd_2 hw)
  show Go p e below _ (s₁.setTop (mkF m 0 #[vR a1, vR a2, vI 0, vI 0, .val .null, vU] []))
  refine Go.step (fun _ k => XS.aloadN X0.here hx rfl (hb hby d_jdk_42_method_149_code_0) rfl rfl k) ?_
  show Go p e below _ (s₁.setTop (mkF m 1 #[vR a1, vR a2, vI 0, vI 0, .val .null, vU] [(.ref a1)]))
  obtain ⟨T_232, X_232, e_232, st_232⟩ := initO X0 hx hZ hown (wd_15 hw) (wd_16 hw) (wd_17 hw) e0 (g := (mkF m 1 #[vR a1, vR a2, vI 0, vI 0, .val .null, vU] [(.ref a1)])) rfl (by rw [hml]; rfl) rfl (hb hby d_jdk_42_method_149_code_1) (by decide) (W := 0) (by show 2 * 0 + _ ≤ _; exact Nat.le_of_eq rfl) (by decide)
  refine Go.step st_232 ?_
  show Go p e below _ (T_232.setTop (mkF m 4 #[vR a1, vR a2, vI 0, vI 0, .val .null, vU] []))
  refine Go.step (fun _ k => XS.iloadN X_232.here hx rfl (hb hby d_jdk_42_method_149_code_4) rfl  k) ?_
  show Go p e below _ (T_232.setTop (mkF m 5 #[vR a1, vR a2, vI 0, vI 0, .val .null, vU] [(.int (0 : Int32))]))
  refine Go.step (fun _ k => XS.ifNo X_232.here hx rfl (hb hby d_jdk_42_method_149_code_5) rfl ((if0 _ _).trans (teq ((by decide) : (0 : Int32) = (0 : Int32))).2) k) ?_
  show Go p e below _ (T_232.setTop (mkF m 8 #[vR a1, vR a2, vI 0, vI 0, .val .null, vU] []))
  refine Go.step (fun _ k => XS.aloadN X_232.here hx rfl (hb hby d_jdk_42_method_149_code_8) rfl rfl k) ?_
  show Go p e below _ (T_232.setTop (mkF m 9 #[vR a1, vR a2, vI 0, vI 0, .val .null, vU] [(.ref a1)]))
  obtain ⟨a_233, T_233, h_233, k1_233, t_233, kb_233, X_233, e_233, E_233, hS_233, hk_233, hZ_233, hown_233, Ex_233, Fc_233, Fv_233, Av_233, lta_233, ltb_233, C_233, Lt_233, -, st_233⟩ := ldcCH X_232 hx hZ hown (wd_79 hw) hwS e_232 hS0 hk0 hEL (by decide) CV0 (vs := []) (z := (0 : Int32)) ⟨by decide, by decide⟩ (by decide) (by decide) (g := (mkF m 9 #[vR a1, vR a2, vI 0, vI 0, .val .null, vU] [(.ref a1)])) rfl (hb hby d_jdk_42_method_149_code_9) (n := 0) (by decide) (by decide) (by decide) (by decide)
  refine Go.step st_233 ?_
  have CR_233 := CHr.trans (CHr.refl CV0) C_233
  have le_233 : h0.size ≤ h_233.size := E_233.1
  have KP_233 := KP0.ext E_233
  have O_233 := hO.ext E_233
  have Sx_233 : Str Z h_233.size h_233 a_233 ([] : List Int32) := ⟨t_233, kb_233, lta_233, ltb_233, Ex_233, Fv_233, Fc_233, Av_233, by decide, by decide⟩
  show Go p e below _ (T_233.setTop (mkF m 11 #[vR a1, vR a2, vI 0, vI 0, .val .null, vU] [(.ref a_233), (.ref a1)]))
  have cp234 := Sx_233
  obtain ⟨t235, kb235, -, hb235, Ex235, Fv235, Fc235, Av235, hl235, hn235⟩ := cp234
  obtain ⟨T_236, X_236, e_236, st_236⟩ := getF X_233 hx hZ_233 hown_233 (host := "") (Or.inl (wd_32 hw)) Via.refl e_233 Fv235 (g := (mkF m 11 #[vR a1, vR a2, vI 0, vI 0, .val .null, vU] [(.ref a_233), (.ref a1)])) rfl rfl (hb hby d_jdk_42_method_149_code_11)
  refine Go.step st_236 ?_
  show Go p e below _ (T_236.setTop (mkF m 14 #[vR a1, vR a2, vI 0, vI 0, .val .null, vU] [(.ref t235), (.ref a1)]))
  have f237 : Exa Z h_233 a1 "java/lang/String" := (E_a1.ext E_233)
  have f238 : Fld Z h_233 a1 "java/lang/String" "value" "[B" .null := (F_a1v.ext E_233)
  obtain ⟨T_239, h_239, X_239, e_239, W_239, st_239⟩ := putF X_236 hx hZ_233 hown_233 (host := "") (Or.inl (wd_32 hw)) Via.refl e_236 f238 f237 (Or.inr ⟨(wd_33 hw), rfl, hnm⟩) (wd_2 hw) (ty := (.array .byte)) pf_0 rfl rfl (g := (mkF m 14 #[vR a1, vR a2, vI 0, vI 0, .val .null, vU] [(.ref t235), (.ref a1)])) rfl rfl (hb hby d_jdk_42_method_149_code_14)
  refine Go.step st_239 ?_
  have N_239 := Fr.snoc X_239 N0 g_a1
  have C_239 := CHr.wr W_239 (CHr.safe C_233 E_a1.lt Sf_a1) C_233.1
  have CR_239 := CHr.trans CR_233 C_239
  have le_239 : h_233.size ≤ h_239.size := Nat.le_of_eq W_239.size.symm
  have KP_239 := KP_233.wr W_239 (Or.inl (List.mem_of_getElem? (i := 0) rfl))
  have O_239 := O_233.wr W_239 g_a1
  have F_239 : Fld Z h_239 a1 "java/lang/String" "value" "[B" (.ref t235) := f238.same W_239
  show Go p e below _ (T_239.setTop (mkF m 17 #[vR a1, vR a2, vI 0, vI 0, .val .null, vU] []))
  refine Go.step (fun _ k => XS.aloadN X_239.here hx rfl (hb hby d_jdk_42_method_149_code_17) rfl rfl k) ?_
  show Go p e below _ (T_239.setTop (mkF m 18 #[vR a1, vR a2, vI 0, vI 0, .val .null, vU] [(.ref a1)]))
  obtain ⟨a_240, T_240, h_240, k1_240, t_240, kb_240, X_240, e_240, E_240, hS_240, hk_240, hZ_240, hown_240, Ex_240, Fc_240, Fv_240, Av_240, lta_240, ltb_240, C_240, Lt_240, -, st_240⟩ := ldcCH X_239 hx hZ_233 hown_233 (wd_79 hw) hwS e_239 hS_233 (Nat.le_trans hk_233 le_239) hEL (by decide) C_239.1 (vs := []) (z := (0 : Int32)) ⟨by decide, by decide⟩ (by decide) (by decide) (g := (mkF m 18 #[vR a1, vR a2, vI 0, vI 0, .val .null, vU] [(.ref a1)])) rfl (hb hby d_jdk_42_method_149_code_18) (n := 0) (by decide) (by decide) (by decide) (by decide)
  refine Go.step st_240 ?_
  have CR_240 := CHr.trans CR_239 C_240
  have le_240 : h_239.size ≤ h_240.size := E_240.1
  have KP_240 := KP_239.ext E_240
  have O_240 := O_239.ext E_240
  have Sx_240 : Str Z h_240.size h_240 a_240 ([] : List Int32) := ⟨t_240, kb_240, lta_240, ltb_240, Ex_240, Fv_240, Fc_240, Av_240, by decide, by decide⟩
  show Go p e below _ (T_240.setTop (mkF m 20 #[vR a1, vR a2, vI 0, vI 0, .val .null, vU] [(.ref a_240), (.ref a1)]))
  have cp241 := Sx_240
  obtain ⟨t242, kb242, -, hb242, Ex242, Fv242, Fc242, Av242, hl242, hn242⟩ := cp241
  obtain ⟨T_243, X_243, e_243, st_243⟩ := getF X_240 hx hZ_240 hown_240 (host := "") (Or.inl (wd_30 hw)) Via.refl e_240 Fc242 (g := (mkF m 20 #[vR a1, vR a2, vI 0, vI 0, .val .null, vU] [(.ref a_240), (.ref a1)])) rfl rfl (hb hby d_jdk_42_method_149_code_20)
  refine Go.step st_243 ?_
  show Go p e below _ (T_243.setTop (mkF m 23 #[vR a1, vR a2, vI 0, vI 0, .val .null, vU] [(.int (0 : Int32)), (.ref a1)]))
  have f244 : Exa Z h_240 a1 "java/lang/String" := ((f237.wr W_239).ext E_240)
  have f245 : Fld Z h_240 a1 "java/lang/String" "coder" "B" (.int (0 : Int32)) := (((F_a1c.ext E_233).other W_239 (Or.inr (sn_0 hw))).ext E_240)
  obtain ⟨T_246, h_246, X_246, e_246, W_246, st_246⟩ := putFN X_243 hx hZ_240 hown_240 (wd_30 hw) Via.refl e_243 f245 f244 (Or.inr ⟨(wd_31 hw), rfl, hnm⟩) (wd_2 hw) (ty := .byte) (v' := (.int (0 : Int32))) pf_1 rfl (by decide) (g := (mkF m 23 #[vR a1, vR a2, vI 0, vI 0, .val .null, vU] [(.int (0 : Int32)), (.ref a1)])) rfl rfl (hb hby d_jdk_42_method_149_code_23)
  refine Go.step st_246 ?_
  have N_246 := Fr.snoc X_246 N_239 g_a1
  have C_246 := CHr.wr W_246 (CHr.safe (CHr.trans (CHr.trans C_233 C_239) C_240) E_a1.lt Sf_a1) C_240.1
  have CR_246 := CHr.trans CR_240 C_246
  have le_246 : h_240.size ≤ h_246.size := Nat.le_of_eq W_246.size.symm
  have KP_246 := KP_240.wr W_246 (Or.inl (List.mem_of_getElem? (i := 0) rfl))
  have O_246 := O_240.wr W_246 g_a1
  have F_246 : Fld Z h_246 a1 "java/lang/String" "coder" "B" (.int (0 : Int32)) := f245.same W_246
  show Go p e below _ (T_246.setTop (mkF m 26 #[vR a1, vR a2, vI 0, vI 0, .val .null, vU] []))
  have f247 : Exa Z h_246 a1 "java/lang/String" := (f244.wr W_246)
  have f248 : Fld Z h_246 a1 "java/lang/String" "value" "[B" (.ref t235) := ((F_239.ext E_240).other W_246 (Or.inr (sn_1 hw)))
  have f249 : Arv Z h_246 t235 kb235 .byte (0 : Int32) [] (.int (0 : Int32)) := (((Av235.other W_239 (Ne.symm (Exa.neArv (E_a1.ext E_233) Av235 (wd_2 hw)))).ext E_240).other W_246 (Ne.symm (Exa.neArv (E_a1.ext E_233) Av235 (wd_2 hw))))
  have Sx250 : Str Z h_246.size h_246 a1 ([] : List Int32) := ⟨t235, kb235, f247.lt, f249.lt, f247, f248, F_246, f249, by decide, Nat.le_of_ble_eq_true rfl⟩
  exact Go.ret0W X_246 e_246 hS_240 (Nat.le_trans hk_240 le_246) hZ_240 hEL hh0 CR_246 hx hlk hret (hb hby d_jdk_42_method_149_code_26) (by decide) (by decide) (by rw [e_246]; exact ⟨rfl, N_246, KP_246, Sx250⟩)
--@E
--@C init1e
def Q_init1e (Z : State) (zc : Int32) (va : Addr) (kv : ClassId) (ea : Addr) (eb : Addr) (wa : Addr) (wb : Addr) (a1 : Addr) (a2 : Addr) (k2 : ClassId) (h0 : Heap) (n0 : Nat) (v : Option Value) (h : Heap) (L : List Loc) : Prop := v = none ∧ Fr n0 L ∧ Keep h0 h [a1] ∧ Str Z h.size h a1 ([] : List Int32)
set_option maxRecDepth 65536 in
set_option maxHeartbeats 40000000 in
theorem rm_init1e (l : Launch) (Z : State) (a0 : Array Value) (hw : ∀ d ∈ tables_1, d.before a0 Z = true) (zc : Int32) (va : Addr) (kv : ClassId) (ea : Addr) (eb : Addr) (wa : Addr) (wb : Addr) (a1 : Addr) (a2 : Addr) (k2 : ClassId) (h0 : Heap) (n0 : Nat) (Z0 : n0 ≤ h0.size) (E_a1 : Exa Z h0 a1 "java/lang/String") (F_a1v : Fld Z h0 a1 "java/lang/String" "value" "[B" .null) (F_a1c : Fld Z h0 a1 "java/lang/String" "coder" "B" (.int (0 : Int32))) (g_a1 : n0 ≤ a1) (A_a2 : Arv Z h0 a2 k2 .char (0 : Int32) [] (.int (0 : Int32))) (hSt : St Z zc va kv ea eb wa wb) (hO : Old Z n0 h0) :
    CW l Z EL ({ cls := "java/lang/String", name := "<init>", desc := "([C)V" } : Jvm.MethodName) [(Jvm.Cond.code ({ cls := "java/lang/String", name := "<init>", desc := "([C)V" } : Jvm.MethodName) jdk_42_method_3_code (2 : Nat) (Option.none : Option Jvm.ClassFile.FieldType))] ({ frames := 2, cells := 4, slots := 8, locals := 29 } : Room) #[(.ref a1), (.ref a2)] h0 (Q_init1e Z zc va kv ea eb wa wb a1 a2 k2 h0 n0) := by
  refine CW.of (L0 := #[vR a1, vR a2]) (plainFor_of_name pn_1) (fun m => by first | (simp [entryFrame, mkF, argsToLocals, Value.category]; done) | rfl) ?_
  intro p e s m below meth c s₁ hx hby hml hret hlk hZ hown hnm X0 e0 hS0 hk0 CV0 hh0
  have hEL := hEL_ (a0 := a0) hw
  have hwS := hwS_ hw
  have N0 := Fr.nil n0
  have KP0 := Keep.refl h0 [a1]
  have hSt_ := hSt
  obtain ⟨S_cs, n_cs, S_va, E_va, A_va, S_ea, F_ea, S_wa, S_eb, F_eb, S_wb⟩ := hSt_
  have Sf_a1 : Safe Z EL s.vm h0 a1 := own_safe_null hZ.alike E_a1 F_a1v (wd_2 hw)
  show Go p e below _ (s₁.setTop (mkF m 0 #[vR a1, vR a2] []))
  refine Go.step (fun _ k => XS.aloadN X0.here hx rfl (hb hby d_jdk_42_method_3_code_0) rfl rfl k) ?_
  refine Go.step (fun _ k => XS.aloadN X0.here hx rfl (hb hby d_jdk_42_method_3_code_1) rfl rfl k) ?_
  refine Go.step (fun _ k => XS.iconst X0.here hx rfl (hb hby d_jdk_42_method_3_code_2) k) ?_
  refine Go.step (fun _ k => XS.aloadN X0.here hx rfl (hb hby d_jdk_42_method_3_code_3) rfl rfl k) ?_
  show Go p e below _ (s₁.setTop (mkF m 4 #[vR a1, vR a2] [(.ref a2), (.int (0 : Int32)), (.ref a2), (.ref a1)]))
  have cp252 := A_a2
  obtain ⟨cl_251, Ar_251, -, Sz_251, Ng_251, -, -⟩ := cp252
  refine Go.step (fun _ k => X0.arraylength hx (by rw [e0]; exact Ar_251.1) (State.isArrayOf_alike hZ.alike Ar_251.2.1) (g := (mkF m 4 #[vR a1, vR a2] [(.ref a2), (.int (0 : Int32)), (.ref a2), (.ref a1)])) rfl rfl (hb hby d_jdk_42_method_3_code_4) _ k) ?_
  rw [len_of Sz_251 Ng_251]
  show Go p e below _ (s₁.setTop (mkF m 5 #[vR a1, vR a2] [(.int (0 : Int32)), (.int (0 : Int32)), (.ref a2), (.ref a1)]))
  refine Go.step (fun _ k => XS.aconstNull X0.here hx rfl (hb hby d_jdk_42_method_3_code_5) k) ?_
  show Go p e below _ (s₁.setTop (mkF m 6 #[vR a1, vR a2] [.null, (.int (0 : Int32)), (.int (0 : Int32)), (.ref a2), (.ref a1)]))
  obtain ⟨v_253, T_253, L_253, X_253, hQ_253, hS_253, hZ_253, hown_253, C_253, st_253⟩ := goCW X0 hx hZ (y := Y_2) hown hS0 hk0 rfl (wd_11 hw) (wd_12 hw) (wd_14 hw) (by decide) (backOfSH (W := 0) (rm_init4e l Z a0 hw zc va kv ea eb wa wb (a1) (a2) h0 n0 (Nat.le_trans Z0 KP0.1) E_a1 F_a1v F_a1c g_a1 hSt hO) hZ (wd_14 hw) (wd_3 hw) (by decide) (by decide) hEL CV0) e0 (g := (mkF m 6 #[vR a1, vR a2] [.null, (.int (0 : Int32)), (.int (0 : Int32)), (.ref a2), (.ref a1)])) rfl (by rw [hml]; rfl) (a := a1) (argsL := [(.ref a2), (.int (0 : Int32)), (.int (0 : Int32)), .null]) (rest := []) rfl (lenOf pd_2 rfl) rfl (by show 2 * 0 + _ ≤ _; exact Nat.le_of_eq rfl) (hb hby d_jdk_42_method_3_code_6) (by decide) (by decide)
  obtain ⟨rfl, Nq_253, K_253, u0_253⟩ := hQ_253
  have N_253 := Fr.app N0 Nq_253
  have CR_253 := CHr.trans (CHr.refl CV0) C_253
  have le_253 : h0.size ≤ T_253.heap.size := K_253.1
  have KP_253 := KP0.trans K_253 (allS (Or.inl (List.mem_of_getElem? (i := 0) rfl)) all0)
  have O_253 := hO.keep K_253 (allS g_a1 all0)
  refine Go.step st_253 ?_
  show Go p e below _ (T_253.setTop (mkF m 9 #[vR a1, vR a2] []))
  exact Go.ret0W X_253 rfl hS_253 (Nat.le_refl _) hZ_253 hEL hh0 CR_253 hx hlk hret (hb hby d_jdk_42_method_3_code_9) (by decide) (by decide) (by exact ⟨rfl, N_253, KP_253, u0_253⟩)
--@E
--@C tailS
set_option maxRecDepth 65536 in
set_option maxHeartbeats 40000000 in
theorem tg_tailS (l : Launch) (Z : State) (a0 : Array Value) (hw : ∀ d ∈ tables_1, d.before a0 Z = true) (zc : Int32) (va : Addr) (kv : ClassId) (ea : Addr) (eb : Addr) (wa : Addr) (wb : Addr) (s0 : Slot) (s1 : Slot) (s2 : Slot) (s3 : Slot) (s4 : Slot) (s5 : Slot) (s6 : Slot) (s7 : Slot) (s8 : Slot) (s9 : Slot) (s10 : Slot) (s12 : Slot) (r1 : Addr) (cs : List Int32) (h0 : Heap) (n0 : Nat) (Z0 : n0 ≤ h0.size) (S_r1 : Str Z h0.size h0 r1 cs) (hs12 : (s12 = .unset ∨ ∃ z, s12 = .val (.int z))) (hSt : St Z zc va kv ea eb wa wb) (hO : Old Z n0 h0)
    {p : Program} {e : Env} {s : State} {m : MethodId} {args : Array Value} {below : List Frame} {meth : Method} {c : Code} {T : State} {locs : List Loc} {cells slots : Nat} {vm0 : Vm} {k0 : Nat} {hb0 : Heap}
    (hx : p.tables.exec = Jvm.exec) (hby : c.code = code) (hml : c.maxLocals = maxLocals) (hret : meth.sig.returnType = some .boolean) (hlk : meth.locks = false) (hZ : Z.Warmed39 vm0) (hown : vm0.findClass "com/example/patient_ledger/patientledger/EntryTypeFromWireNamePinLaw" = some m.cls) (X0 : Stand p l e room_1 (s.setVm vm0) m args below meth c T locs cells slots) (e0 : T.heap = h0) (N0 : Fr n0 locs) (hS0 : s.Since vm0 k0) (hk0 : k0 ≤ h0.size) (CV0 : CHv Z EL vm0 h0) (CR0 : CHr Z EL s.vm hb0 vm0 h0) (hh0 : s.heap = hb0) (hc : cells + 5 ≤ room_1.cells) (hs : slots + 54 ≤ room_1.slots) :
    Go p e below (QW Z EL s room_1 (fun v _ L => v = some (.int (1 : Int32)) ∧ Fr n0 L)) (T.setTop (mkF m 303 #[s0, s1, s2, s3, s4, s5, s6, s7, s8, s9, s10, .val (.ref r1), s12] [])) := by
  have hEL := hEL_ (a0 := a0) hw
  have hwS := hwS_ hw
  have KP0 := Keep.refl h0 []
  have hSt_ := hSt
  obtain ⟨S_cs, n_cs, S_va, E_va, A_va, S_ea, F_ea, S_wa, S_eb, F_eb, S_wb⟩ := hSt_
  show Go p e below _ (T.setTop (mkF m 303 #[s0, s1, s2, s3, s4, s5, s6, s7, s8, s9, s10, vR r1, s12] []))
  rcases hs12 with rfl | ⟨zs12, rfl⟩
  · skip
    show Go p e below _ (T.setTop (mkF m 303 #[s0, s1, s2, s3, s4, s5, s6, s7, s8, s9, s10, vR r1, vU] []))
    refine Go.step (fun _ k => XS.aconstNull X0.here hx rfl (hb hby at_303) k) ?_
    show Go p e below _ (T.setTop (mkF m 304 #[s0, s1, s2, s3, s4, s5, s6, s7, s8, s9, s10, vR r1, vU] [.null]))
    refine Go.step (fun _ k => XS.astore X0.here hx rfl (hb hby at_304) rfl rfl (l' := #[s0, s1, s2, s3, s4, s5, s6, s7, s8, s9, s10, vR r1, .val .null]) rfl k) ?_
    show Go p e below _ (T.setTop (mkF m 306 #[s0, s1, s2, s3, s4, s5, s6, s7, s8, s9, s10, vR r1, .val .null] []))
    refine Go.step (fun _ k => XS.aload X0.here hx rfl (hb hby at_306) rfl rfl k) ?_
    show Go p e below _ (T.setTop (mkF m 308 #[s0, s1, s2, s3, s4, s5, s6, s7, s8, s9, s10, vR r1, .val .null] [(.ref r1)]))
    refine Go.step (fun _ k => XS.ifnullNo X0.here hx rfl (hb hby at_308) rfl k) ?_
    show Go p e below _ (T.setTop (mkF m 311 #[s0, s1, s2, s3, s4, s5, s6, s7, s8, s9, s10, vR r1, .val .null] []))
    refine Go.step (fun _ k => XS.aload X0.here hx rfl (hb hby at_311) rfl rfl k) ?_
    show Go p e below _ (T.setTop (mkF m 313 #[s0, s1, s2, s3, s4, s5, s6, s7, s8, s9, s10, vR r1, .val .null] [(.ref r1)]))
    obtain ⟨a_254, T_254, h_254, k1_254, t_254, kb_254, X_254, e_254, E_254, hS_254, hk_254, hZ_254, hown_254, Ex_254, Fc_254, Fv_254, Av_254, lta_254, ltb_254, C_254, Lt_254, -, st_254⟩ := ldcCH X0 hx hZ hown (wd_34 hw) hwS e0 hS0 hk0 hEL (by decide) CV0 (vs := [(.int (100 : Int32)), (.int (101 : Int32)), (.int (98 : Int32)), (.int (105 : Int32)), (.int (116 : Int32))]) (z := (5 : Int32)) ⟨by decide, by decide⟩ (by decide) (by decide) (g := (mkF m 313 #[s0, s1, s2, s3, s4, s5, s6, s7, s8, s9, s10, vR r1, .val .null] [(.ref r1)])) rfl (hb hby at_313) (n := 20) (by decide) (by decide) (by (try dsimp only); omega) (by (try dsimp only); omega)
    refine Go.step st_254 ?_
    have CR_254 := CHr.trans CR0 C_254
    have le_254 : h0.size ≤ h_254.size := E_254.1
    have KP_254 := KP0.ext E_254
    have O_254 := hO.ext E_254
    have Sx_254 : Str Z h_254.size h_254 a_254 ([(100 : Int32), (101 : Int32), (98 : Int32), (105 : Int32), (116 : Int32)] : List Int32) := ⟨t_254, kb_254, lta_254, ltb_254, Ex_254, Fv_254, Fc_254, Av_254, by decide, by decide⟩
    show Go p e below _ (T_254.setTop (mkF m 315 #[s0, s1, s2, s3, s4, s5, s6, s7, s8, s9, s10, vR r1, .val .null] [(.ref a_254), (.ref r1)]))
    have f255 : Str Z h0.size h_254 r1 cs := (S_r1.ext E_254)
    have cp256 := f255
    obtain ⟨t257, kb257, -, -, Ex257, Fv257, Fc257, Av257, hl257, hn257⟩ := cp256
    have cp258 := Sx_254
    obtain ⟨t259, kb259, -, -, Ex259, Fv259, Fc259, Av259, hl259, hn259⟩ := cp258
    obtain ⟨v_260, T_260, L_260, X_260, hQ_260, st_260⟩ := goV X_254 hx hZ_254 (y := Y_1) (z := Y_1) (kc := 0) (ks := 0) (QQ := fun v h' L => ((v = some (.int 1) ∧ cs = ([(100 : Int32), (101 : Int32), (98 : Int32), (105 : Int32), (116 : Int32)] : List Int32)) ∨ (v = some (.int 0) ∧ ¬ cs = ([(100 : Int32), (101 : Int32), (98 : Int32), (105 : Int32), (116 : Int32)] : List Int32))) ∧ L = [] ∧ h' = h_254) hown_254 (wd_37 hw) (wd_38 hw) (notFace_of_selects (args := #[]) (mvT hZ_254 (wd_40 hw))) (wd_40 hw) (wd_39 hw) (by decide) (StrChars.Road.eqW (W := 0) hZ_254 (sw_wordsEq hw) (kI := 4) (wd_2 hw) Ex257 Fv257 Fc257 Av257 (StrChars.Road.codOf rfl (fun c hc => (hl257 c hc).2)) (up255 hl257) hn257 Ex259 Fv259 Fc259 Av259 (StrChars.Road.codOf rfl (fun c hc => (hl259 c hc).2)) (up255 hl259) hn259 (S_cs.ext O_254.2) n_cs (by decide) (by decide)) e_254 Ex257 (g := (mkF m 315 #[s0, s1, s2, s3, s4, s5, s6, s7, s8, s9, s10, vR r1, .val .null] [(.ref a_254), (.ref r1)])) rfl (by rw [hml]; rfl) (argsL := [(.ref a_254)]) (rest := []) rfl (lenOf pd_1 rfl) rfl (by show 2 * 0 + _ ≤ _; exact Nat.le_of_eq rfl) (hb hby at_315) (by (try dsimp only); omega) (by (try dsimp only); omega)
    obtain ⟨hv_260, rfl, e_260⟩ := hQ_260
    obtain rfl := eqv_if hv_260
    have N_260 := Fr.app N0 (Fr.nil n0)
    refine Go.step st_260 ?_
    show Go p e below _ (T_260.setTop (mkF m 318 #[s0, s1, s2, s3, s4, s5, s6, s7, s8, s9, s10, vR r1, .val .null] [(.int (if cs = ([(100 : Int32), (101 : Int32), (98 : Int32), (105 : Int32), (116 : Int32)] : List Int32) then (1 : Int32) else 0))]))
    by_cases u0 : cs = ([(100 : Int32), (101 : Int32), (98 : Int32), (105 : Int32), (116 : Int32)] : List Int32)
    · skip
      refine Go.step (fun _ k => XS.ifNo X_260.here hx rfl (hb hby at_318) rfl ((if0 _ _).trans (feq (b01_ne u0)).1) k) ?_
      show Go p e below _ (T_260.setTop (mkF m 321 #[s0, s1, s2, s3, s4, s5, s6, s7, s8, s9, s10, vR r1, .val .null] []))
      obtain ⟨T_261, X_261, e_261, st_261⟩ := getS2 X_260 hx hZ_254 hown_254 (host := "") (Or.inl (wd_47 hw)) Via.refl e_260 (S_ea.ext O_254.2) (g := (mkF m 321 #[s0, s1, s2, s3, s4, s5, s6, s7, s8, s9, s10, vR r1, .val .null] [])) rfl (hb hby at_321)
      refine Go.step st_261 ?_
      show Go p e below _ (T_261.setTop (mkF m 324 #[s0, s1, s2, s3, s4, s5, s6, s7, s8, s9, s10, vR r1, .val .null] [(.ref ea)]))
      refine Go.step (fun _ k => XS.astore X_261.here hx rfl (hb hby at_324) rfl rfl (l' := #[s0, s1, s2, s3, s4, s5, s6, s7, s8, s9, s10, vR r1, vR ea]) rfl k) ?_
      show Go p e below _ (T_261.setTop (mkF m 326 #[s0, s1, s2, s3, s4, s5, s6, s7, s8, s9, s10, vR r1, vR ea] []))
      refine Go.step (fun _ k => XS.goto X_261.here hx rfl (pc0 := 326) (pc' := 344) rfl (hb hby at_326) (by decide) (by decide) k) ?_
      show Go p e below _ (T_261.setTop (mkF m 344 #[s0, s1, s2, s3, s4, s5, s6, s7, s8, s9, s10, vR r1, vR ea] []))
      refine Go.step (fun _ k => XS.aload X_261.here hx rfl (hb hby at_344) rfl rfl k) ?_
      show Go p e below _ (T_261.setTop (mkF m 346 #[s0, s1, s2, s3, s4, s5, s6, s7, s8, s9, s10, vR r1, vR ea] [(.ref r1)]))
      obtain ⟨v_262, T_262, L_262, X_262, hQ_262, st_262⟩ := goS X_261 hx hZ_254 (y := Y_3) hown_254 (wd_50 hw) (wd_51 hw) (wd_48 hw) (wd_52 hw) (by decide) (backOf (W := 0) (rm_fw l Z a0 hw zc va kv ea eb wa wb (r1) (cs) h_254 n0 (Nat.le_trans Z0 KP_254.1) (f255.mono le_254) hSt O_254) hZ_254 (wd_52 hw) (wd_48 hw) (by decide) (by decide)) e_261 (g := (mkF m 346 #[s0, s1, s2, s3, s4, s5, s6, s7, s8, s9, s10, vR r1, vR ea] [(.ref r1)])) rfl (by rw [hml]; rfl) (argsL := [(.ref r1)]) (rest := []) rfl (lenOf pd_3 rfl) rfl (by show 2 * 0 + _ ≤ _; exact Nat.le_of_eq rfl) (hb hby at_346) (by (try dsimp only); omega) (by (try dsimp only); omega)
      obtain ⟨rfl, Nq_262, K_262⟩ := hQ_262
      have N_262 := Fr.app N_260 Nq_262
      have C_262 := CHr.keep K_262 sf0 C_254.1
      have CR_262 := CHr.trans CR_254 C_262
      have le_262 : h_254.size ≤ T_262.heap.size := K_262.1
      have KP_262 := KP_254.trans K_262 all0
      have O_262 := O_254.keep K_262 all0
      refine Go.step st_262 ?_
      show Go p e below _ (T_262.setTop (mkF m 349 #[s0, s1, s2, s3, s4, s5, s6, s7, s8, s9, s10, vR r1, vR ea] [(fwv ea eb cs)]))
      refine Go.step (fun _ k => XS.aload X_262.here hx rfl (hb hby at_349) rfl rfl k) ?_
      show Go p e below _ (T_262.setTop (mkF m 351 #[s0, s1, s2, s3, s4, s5, s6, s7, s8, s9, s10, vR r1, vR ea] [(.ref ea), (fwv ea eb cs)]))
      refine Go.step (fun _ k => Jvm.RoadKit.acmp (g := (mkF m 351 #[s0, s1, s2, s3, s4, s5, s6, s7, s8, s9, s10, vR r1, vR ea] [(.ref ea), (fwv ea eb cs)])) X_262 hx rfl fwv_ref rfl (pc0 := 351) (pc' := 354) (same := true) rfl (hb hby at_351) rfl (decide_eq_true (by rw [fwv, if_pos u0])) (by decide) (by decide) k) ?_
      show Go p e below _ (T_262.setTop (mkF m 354 #[s0, s1, s2, s3, s4, s5, s6, s7, s8, s9, s10, vR r1, vR ea] []))
      refine Go.step (fun _ k => XS.iconst X_262.here hx rfl (hb hby at_354) k) ?_
      show Go p e below _ (T_262.setTop (mkF m 355 #[s0, s1, s2, s3, s4, s5, s6, s7, s8, s9, s10, vR r1, vR ea] [(.int (1 : Int32))]))
      refine Go.step (fun _ k => XS.goto X_262.here hx rfl (pc0 := 355) (pc' := 359) rfl (hb hby at_355) (by decide) (by decide) k) ?_
      show Go p e below _ (T_262.setTop (mkF m 359 #[s0, s1, s2, s3, s4, s5, s6, s7, s8, s9, s10, vR r1, vR ea] [(.int (1 : Int32))]))
      exact Go.retVW X_262 rfl hS_254 (Nat.le_trans hk_254 le_262) hZ_254 hEL hh0 CR_262 hx hlk hret rfl (Or.inl ⟨rfl, Or.inr (Or.inl rfl), _, rfl⟩) (hb hby at_359) (by (try dsimp only); omega) (by (try dsimp only); omega) (by exact ⟨rfl, N_262⟩)
    · skip
      refine Go.step (fun _ k => XS.ifYes X_260.here hx rfl (pc0 := 318) (pc' := 329) rfl (hb hby at_318) rfl ((if0 _ _).trans (teq (b01_eq u0)).1) (by decide) (by decide) k) ?_
      show Go p e below _ (T_260.setTop (mkF m 329 #[s0, s1, s2, s3, s4, s5, s6, s7, s8, s9, s10, vR r1, .val .null] []))
      refine Go.step (fun _ k => XS.aload X_260.here hx rfl (hb hby at_329) rfl rfl k) ?_
      show Go p e below _ (T_260.setTop (mkF m 331 #[s0, s1, s2, s3, s4, s5, s6, s7, s8, s9, s10, vR r1, .val .null] [(.ref r1)]))
      obtain ⟨a_263, T_263, h_263, k1_263, t_263, kb_263, X_263, e_263, E_263, hS_263, hk_263, hZ_263, hown_263, Ex_263, Fc_263, Fv_263, Av_263, lta_263, ltb_263, C_263, Lt_263, -, st_263⟩ := ldcCH X_260 hx hZ_254 hown_254 (wd_77 hw) hwS e_260 hS_254 hk_254 hEL (by decide) C_254.1 (vs := [(.int (99 : Int32)), (.int (114 : Int32)), (.int (101 : Int32)), (.int (100 : Int32)), (.int (105 : Int32)), (.int (116 : Int32))]) (z := (6 : Int32)) ⟨by decide, by decide⟩ (by decide) (by decide) (g := (mkF m 331 #[s0, s1, s2, s3, s4, s5, s6, s7, s8, s9, s10, vR r1, .val .null] [(.ref r1)])) rfl (hb hby at_331) (n := 24) (by decide) (by decide) (by (try dsimp only); omega) (by (try dsimp only); omega)
      refine Go.step st_263 ?_
      have CR_263 := CHr.trans CR_254 C_263
      have le_263 : h_254.size ≤ h_263.size := E_263.1
      have KP_263 := KP_254.ext E_263
      have O_263 := O_254.ext E_263
      have Sx_263 : Str Z h_263.size h_263 a_263 ([(99 : Int32), (114 : Int32), (101 : Int32), (100 : Int32), (105 : Int32), (116 : Int32)] : List Int32) := ⟨t_263, kb_263, lta_263, ltb_263, Ex_263, Fv_263, Fc_263, Av_263, by decide, by decide⟩
      show Go p e below _ (T_263.setTop (mkF m 333 #[s0, s1, s2, s3, s4, s5, s6, s7, s8, s9, s10, vR r1, .val .null] [(.ref a_263), (.ref r1)]))
      have f264 : Str Z h0.size h_263 r1 cs := (f255.ext E_263)
      have cp265 := f264
      obtain ⟨t266, kb266, -, -, Ex266, Fv266, Fc266, Av266, hl266, hn266⟩ := cp265
      have cp267 := Sx_263
      obtain ⟨t268, kb268, -, -, Ex268, Fv268, Fc268, Av268, hl268, hn268⟩ := cp267
      obtain ⟨v_269, T_269, L_269, X_269, hQ_269, st_269⟩ := goV X_263 hx hZ_263 (y := Y_1) (z := Y_1) (kc := 0) (ks := 0) (QQ := fun v h' L => ((v = some (.int 1) ∧ cs = ([(99 : Int32), (114 : Int32), (101 : Int32), (100 : Int32), (105 : Int32), (116 : Int32)] : List Int32)) ∨ (v = some (.int 0) ∧ ¬ cs = ([(99 : Int32), (114 : Int32), (101 : Int32), (100 : Int32), (105 : Int32), (116 : Int32)] : List Int32))) ∧ L = [] ∧ h' = h_263) hown_263 (wd_37 hw) (wd_38 hw) (notFace_of_selects (args := #[]) (mvT hZ_263 (wd_40 hw))) (wd_40 hw) (wd_39 hw) (by decide) (StrChars.Road.eqW (W := 0) hZ_263 (sw_wordsEq hw) (kI := 4) (wd_2 hw) Ex266 Fv266 Fc266 Av266 (StrChars.Road.codOf rfl (fun c hc => (hl266 c hc).2)) (up255 hl266) hn266 Ex268 Fv268 Fc268 Av268 (StrChars.Road.codOf rfl (fun c hc => (hl268 c hc).2)) (up255 hl268) hn268 (S_cs.ext O_263.2) n_cs (by decide) (by decide)) e_263 Ex266 (g := (mkF m 333 #[s0, s1, s2, s3, s4, s5, s6, s7, s8, s9, s10, vR r1, .val .null] [(.ref a_263), (.ref r1)])) rfl (by rw [hml]; rfl) (argsL := [(.ref a_263)]) (rest := []) rfl (lenOf pd_1 rfl) rfl (by show 2 * 0 + _ ≤ _; exact Nat.le_of_eq rfl) (hb hby at_333) (by (try dsimp only); omega) (by (try dsimp only); omega)
      obtain ⟨hv_269, rfl, e_269⟩ := hQ_269
      obtain rfl := eqv_if hv_269
      have N_269 := Fr.app N_260 (Fr.nil n0)
      refine Go.step st_269 ?_
      show Go p e below _ (T_269.setTop (mkF m 336 #[s0, s1, s2, s3, s4, s5, s6, s7, s8, s9, s10, vR r1, .val .null] [(.int (if cs = ([(99 : Int32), (114 : Int32), (101 : Int32), (100 : Int32), (105 : Int32), (116 : Int32)] : List Int32) then (1 : Int32) else 0))]))
      by_cases u1 : cs = ([(99 : Int32), (114 : Int32), (101 : Int32), (100 : Int32), (105 : Int32), (116 : Int32)] : List Int32)
      · skip
        refine Go.step (fun _ k => XS.ifNo X_269.here hx rfl (hb hby at_336) rfl ((if0 _ _).trans (feq (b01_ne u1)).1) k) ?_
        show Go p e below _ (T_269.setTop (mkF m 339 #[s0, s1, s2, s3, s4, s5, s6, s7, s8, s9, s10, vR r1, .val .null] []))
        obtain ⟨T_270, X_270, e_270, st_270⟩ := getS2 X_269 hx hZ_263 hown_263 (host := "") (Or.inl (wd_78 hw)) Via.refl e_269 (S_eb.ext O_263.2) (g := (mkF m 339 #[s0, s1, s2, s3, s4, s5, s6, s7, s8, s9, s10, vR r1, .val .null] [])) rfl (hb hby at_339)
        refine Go.step st_270 ?_
        show Go p e below _ (T_270.setTop (mkF m 342 #[s0, s1, s2, s3, s4, s5, s6, s7, s8, s9, s10, vR r1, .val .null] [(.ref eb)]))
        refine Go.step (fun _ k => XS.astore X_270.here hx rfl (hb hby at_342) rfl rfl (l' := #[s0, s1, s2, s3, s4, s5, s6, s7, s8, s9, s10, vR r1, vR eb]) rfl k) ?_
        show Go p e below _ (T_270.setTop (mkF m 344 #[s0, s1, s2, s3, s4, s5, s6, s7, s8, s9, s10, vR r1, vR eb] []))
        refine Go.step (fun _ k => XS.aload X_270.here hx rfl (hb hby at_344) rfl rfl k) ?_
        show Go p e below _ (T_270.setTop (mkF m 346 #[s0, s1, s2, s3, s4, s5, s6, s7, s8, s9, s10, vR r1, vR eb] [(.ref r1)]))
        obtain ⟨v_271, T_271, L_271, X_271, hQ_271, st_271⟩ := goS X_270 hx hZ_263 (y := Y_3) hown_263 (wd_50 hw) (wd_51 hw) (wd_48 hw) (wd_52 hw) (by decide) (backOf (W := 0) (rm_fw l Z a0 hw zc va kv ea eb wa wb (r1) (cs) h_263 n0 (Nat.le_trans Z0 KP_263.1) (f264.mono (Nat.le_trans le_254 le_263)) hSt O_263) hZ_263 (wd_52 hw) (wd_48 hw) (by decide) (by decide)) e_270 (g := (mkF m 346 #[s0, s1, s2, s3, s4, s5, s6, s7, s8, s9, s10, vR r1, vR eb] [(.ref r1)])) rfl (by rw [hml]; rfl) (argsL := [(.ref r1)]) (rest := []) rfl (lenOf pd_3 rfl) rfl (by show 2 * 0 + _ ≤ _; exact Nat.le_of_eq rfl) (hb hby at_346) (by (try dsimp only); omega) (by (try dsimp only); omega)
        obtain ⟨rfl, Nq_271, K_271⟩ := hQ_271
        have N_271 := Fr.app N_269 Nq_271
        have C_271 := CHr.keep K_271 sf0 C_263.1
        have CR_271 := CHr.trans CR_263 C_271
        have le_271 : h_263.size ≤ T_271.heap.size := K_271.1
        have KP_271 := KP_263.trans K_271 all0
        have O_271 := O_263.keep K_271 all0
        refine Go.step st_271 ?_
        show Go p e below _ (T_271.setTop (mkF m 349 #[s0, s1, s2, s3, s4, s5, s6, s7, s8, s9, s10, vR r1, vR eb] [(fwv ea eb cs)]))
        refine Go.step (fun _ k => XS.aload X_271.here hx rfl (hb hby at_349) rfl rfl k) ?_
        show Go p e below _ (T_271.setTop (mkF m 351 #[s0, s1, s2, s3, s4, s5, s6, s7, s8, s9, s10, vR r1, vR eb] [(.ref eb), (fwv ea eb cs)]))
        refine Go.step (fun _ k => Jvm.RoadKit.acmp (g := (mkF m 351 #[s0, s1, s2, s3, s4, s5, s6, s7, s8, s9, s10, vR r1, vR eb] [(.ref eb), (fwv ea eb cs)])) X_271 hx rfl fwv_ref rfl (pc0 := 351) (pc' := 354) (same := true) rfl (hb hby at_351) rfl (decide_eq_true (by rw [fwv, if_neg u0, if_pos u1])) (by decide) (by decide) k) ?_
        show Go p e below _ (T_271.setTop (mkF m 354 #[s0, s1, s2, s3, s4, s5, s6, s7, s8, s9, s10, vR r1, vR eb] []))
        refine Go.step (fun _ k => XS.iconst X_271.here hx rfl (hb hby at_354) k) ?_
        show Go p e below _ (T_271.setTop (mkF m 355 #[s0, s1, s2, s3, s4, s5, s6, s7, s8, s9, s10, vR r1, vR eb] [(.int (1 : Int32))]))
        refine Go.step (fun _ k => XS.goto X_271.here hx rfl (pc0 := 355) (pc' := 359) rfl (hb hby at_355) (by decide) (by decide) k) ?_
        show Go p e below _ (T_271.setTop (mkF m 359 #[s0, s1, s2, s3, s4, s5, s6, s7, s8, s9, s10, vR r1, vR eb] [(.int (1 : Int32))]))
        exact Go.retVW X_271 rfl hS_263 (Nat.le_trans hk_263 le_271) hZ_263 hEL hh0 CR_271 hx hlk hret rfl (Or.inl ⟨rfl, Or.inr (Or.inl rfl), _, rfl⟩) (hb hby at_359) (by (try dsimp only); omega) (by (try dsimp only); omega) (by exact ⟨rfl, N_271⟩)
      · skip
        refine Go.step (fun _ k => XS.ifYes X_269.here hx rfl (pc0 := 336) (pc' := 344) rfl (hb hby at_336) rfl ((if0 _ _).trans (teq (b01_eq u1)).1) (by decide) (by decide) k) ?_
        show Go p e below _ (T_269.setTop (mkF m 344 #[s0, s1, s2, s3, s4, s5, s6, s7, s8, s9, s10, vR r1, .val .null] []))
        refine Go.step (fun _ k => XS.aload X_269.here hx rfl (hb hby at_344) rfl rfl k) ?_
        show Go p e below _ (T_269.setTop (mkF m 346 #[s0, s1, s2, s3, s4, s5, s6, s7, s8, s9, s10, vR r1, .val .null] [(.ref r1)]))
        obtain ⟨v_272, T_272, L_272, X_272, hQ_272, st_272⟩ := goS X_269 hx hZ_263 (y := Y_3) hown_263 (wd_50 hw) (wd_51 hw) (wd_48 hw) (wd_52 hw) (by decide) (backOf (W := 0) (rm_fw l Z a0 hw zc va kv ea eb wa wb (r1) (cs) h_263 n0 (Nat.le_trans Z0 KP_263.1) (f264.mono (Nat.le_trans le_254 le_263)) hSt O_263) hZ_263 (wd_52 hw) (wd_48 hw) (by decide) (by decide)) e_269 (g := (mkF m 346 #[s0, s1, s2, s3, s4, s5, s6, s7, s8, s9, s10, vR r1, .val .null] [(.ref r1)])) rfl (by rw [hml]; rfl) (argsL := [(.ref r1)]) (rest := []) rfl (lenOf pd_3 rfl) rfl (by show 2 * 0 + _ ≤ _; exact Nat.le_of_eq rfl) (hb hby at_346) (by (try dsimp only); omega) (by (try dsimp only); omega)
        obtain ⟨rfl, Nq_272, K_272⟩ := hQ_272
        have N_272 := Fr.app N_269 Nq_272
        have C_272 := CHr.keep K_272 sf0 C_263.1
        have CR_272 := CHr.trans CR_263 C_272
        have le_272 : h_263.size ≤ T_272.heap.size := K_272.1
        have KP_272 := KP_263.trans K_272 all0
        have O_272 := O_263.keep K_272 all0
        refine Go.step st_272 ?_
        show Go p e below _ (T_272.setTop (mkF m 349 #[s0, s1, s2, s3, s4, s5, s6, s7, s8, s9, s10, vR r1, .val .null] [(fwv ea eb cs)]))
        refine Go.step (fun _ k => XS.aload X_272.here hx rfl (hb hby at_349) rfl rfl k) ?_
        show Go p e below _ (T_272.setTop (mkF m 351 #[s0, s1, s2, s3, s4, s5, s6, s7, s8, s9, s10, vR r1, .val .null] [.null, (fwv ea eb cs)]))
        refine Go.step (fun _ k => Jvm.RoadKit.acmp (g := (mkF m 351 #[s0, s1, s2, s3, s4, s5, s6, s7, s8, s9, s10, vR r1, .val .null] [.null, (fwv ea eb cs)])) X_272 hx rfl fwv_ref rfl (pc0 := 351) (pc' := 354) (same := true) rfl (hb hby at_351) rfl (decide_eq_true (by rw [fwv, if_neg u0, if_neg u1])) (by decide) (by decide) k) ?_
        show Go p e below _ (T_272.setTop (mkF m 354 #[s0, s1, s2, s3, s4, s5, s6, s7, s8, s9, s10, vR r1, .val .null] []))
        refine Go.step (fun _ k => XS.iconst X_272.here hx rfl (hb hby at_354) k) ?_
        show Go p e below _ (T_272.setTop (mkF m 355 #[s0, s1, s2, s3, s4, s5, s6, s7, s8, s9, s10, vR r1, .val .null] [(.int (1 : Int32))]))
        refine Go.step (fun _ k => XS.goto X_272.here hx rfl (pc0 := 355) (pc' := 359) rfl (hb hby at_355) (by decide) (by decide) k) ?_
        show Go p e below _ (T_272.setTop (mkF m 359 #[s0, s1, s2, s3, s4, s5, s6, s7, s8, s9, s10, vR r1, .val .null] [(.int (1 : Int32))]))
        exact Go.retVW X_272 rfl hS_263 (Nat.le_trans hk_263 le_272) hZ_263 hEL hh0 CR_272 hx hlk hret rfl (Or.inl ⟨rfl, Or.inr (Or.inl rfl), _, rfl⟩) (hb hby at_359) (by (try dsimp only); omega) (by (try dsimp only); omega) (by exact ⟨rfl, N_272⟩)
  · skip
    show Go p e below _ (T.setTop (mkF m 303 #[s0, s1, s2, s3, s4, s5, s6, s7, s8, s9, s10, vR r1, vI zs12] []))
    refine Go.step (fun _ k => XS.aconstNull X0.here hx rfl (hb hby at_303) k) ?_
    show Go p e below _ (T.setTop (mkF m 304 #[s0, s1, s2, s3, s4, s5, s6, s7, s8, s9, s10, vR r1, vI zs12] [.null]))
    refine Go.step (fun _ k => XS.astore X0.here hx rfl (hb hby at_304) rfl rfl (l' := #[s0, s1, s2, s3, s4, s5, s6, s7, s8, s9, s10, vR r1, .val .null]) rfl k) ?_
    show Go p e below _ (T.setTop (mkF m 306 #[s0, s1, s2, s3, s4, s5, s6, s7, s8, s9, s10, vR r1, .val .null] []))
    refine Go.step (fun _ k => XS.aload X0.here hx rfl (hb hby at_306) rfl rfl k) ?_
    show Go p e below _ (T.setTop (mkF m 308 #[s0, s1, s2, s3, s4, s5, s6, s7, s8, s9, s10, vR r1, .val .null] [(.ref r1)]))
    refine Go.step (fun _ k => XS.ifnullNo X0.here hx rfl (hb hby at_308) rfl k) ?_
    show Go p e below _ (T.setTop (mkF m 311 #[s0, s1, s2, s3, s4, s5, s6, s7, s8, s9, s10, vR r1, .val .null] []))
    refine Go.step (fun _ k => XS.aload X0.here hx rfl (hb hby at_311) rfl rfl k) ?_
    show Go p e below _ (T.setTop (mkF m 313 #[s0, s1, s2, s3, s4, s5, s6, s7, s8, s9, s10, vR r1, .val .null] [(.ref r1)]))
    obtain ⟨a_273, T_273, h_273, k1_273, t_273, kb_273, X_273, e_273, E_273, hS_273, hk_273, hZ_273, hown_273, Ex_273, Fc_273, Fv_273, Av_273, lta_273, ltb_273, C_273, Lt_273, -, st_273⟩ := ldcCH X0 hx hZ hown (wd_34 hw) hwS e0 hS0 hk0 hEL (by decide) CV0 (vs := [(.int (100 : Int32)), (.int (101 : Int32)), (.int (98 : Int32)), (.int (105 : Int32)), (.int (116 : Int32))]) (z := (5 : Int32)) ⟨by decide, by decide⟩ (by decide) (by decide) (g := (mkF m 313 #[s0, s1, s2, s3, s4, s5, s6, s7, s8, s9, s10, vR r1, .val .null] [(.ref r1)])) rfl (hb hby at_313) (n := 20) (by decide) (by decide) (by (try dsimp only); omega) (by (try dsimp only); omega)
    refine Go.step st_273 ?_
    have CR_273 := CHr.trans CR0 C_273
    have le_273 : h0.size ≤ h_273.size := E_273.1
    have KP_273 := KP0.ext E_273
    have O_273 := hO.ext E_273
    have Sx_273 : Str Z h_273.size h_273 a_273 ([(100 : Int32), (101 : Int32), (98 : Int32), (105 : Int32), (116 : Int32)] : List Int32) := ⟨t_273, kb_273, lta_273, ltb_273, Ex_273, Fv_273, Fc_273, Av_273, by decide, by decide⟩
    show Go p e below _ (T_273.setTop (mkF m 315 #[s0, s1, s2, s3, s4, s5, s6, s7, s8, s9, s10, vR r1, .val .null] [(.ref a_273), (.ref r1)]))
    have f274 : Str Z h0.size h_273 r1 cs := (S_r1.ext E_273)
    have cp275 := f274
    obtain ⟨t276, kb276, -, -, Ex276, Fv276, Fc276, Av276, hl276, hn276⟩ := cp275
    have cp277 := Sx_273
    obtain ⟨t278, kb278, -, -, Ex278, Fv278, Fc278, Av278, hl278, hn278⟩ := cp277
    obtain ⟨v_279, T_279, L_279, X_279, hQ_279, st_279⟩ := goV X_273 hx hZ_273 (y := Y_1) (z := Y_1) (kc := 0) (ks := 0) (QQ := fun v h' L => ((v = some (.int 1) ∧ cs = ([(100 : Int32), (101 : Int32), (98 : Int32), (105 : Int32), (116 : Int32)] : List Int32)) ∨ (v = some (.int 0) ∧ ¬ cs = ([(100 : Int32), (101 : Int32), (98 : Int32), (105 : Int32), (116 : Int32)] : List Int32))) ∧ L = [] ∧ h' = h_273) hown_273 (wd_37 hw) (wd_38 hw) (notFace_of_selects (args := #[]) (mvT hZ_273 (wd_40 hw))) (wd_40 hw) (wd_39 hw) (by decide) (StrChars.Road.eqW (W := 0) hZ_273 (sw_wordsEq hw) (kI := 4) (wd_2 hw) Ex276 Fv276 Fc276 Av276 (StrChars.Road.codOf rfl (fun c hc => (hl276 c hc).2)) (up255 hl276) hn276 Ex278 Fv278 Fc278 Av278 (StrChars.Road.codOf rfl (fun c hc => (hl278 c hc).2)) (up255 hl278) hn278 (S_cs.ext O_273.2) n_cs (by decide) (by decide)) e_273 Ex276 (g := (mkF m 315 #[s0, s1, s2, s3, s4, s5, s6, s7, s8, s9, s10, vR r1, .val .null] [(.ref a_273), (.ref r1)])) rfl (by rw [hml]; rfl) (argsL := [(.ref a_273)]) (rest := []) rfl (lenOf pd_1 rfl) rfl (by show 2 * 0 + _ ≤ _; exact Nat.le_of_eq rfl) (hb hby at_315) (by (try dsimp only); omega) (by (try dsimp only); omega)
    obtain ⟨hv_279, rfl, e_279⟩ := hQ_279
    obtain rfl := eqv_if hv_279
    have N_279 := Fr.app N0 (Fr.nil n0)
    refine Go.step st_279 ?_
    show Go p e below _ (T_279.setTop (mkF m 318 #[s0, s1, s2, s3, s4, s5, s6, s7, s8, s9, s10, vR r1, .val .null] [(.int (if cs = ([(100 : Int32), (101 : Int32), (98 : Int32), (105 : Int32), (116 : Int32)] : List Int32) then (1 : Int32) else 0))]))
    by_cases u0 : cs = ([(100 : Int32), (101 : Int32), (98 : Int32), (105 : Int32), (116 : Int32)] : List Int32)
    · skip
      refine Go.step (fun _ k => XS.ifNo X_279.here hx rfl (hb hby at_318) rfl ((if0 _ _).trans (feq (b01_ne u0)).1) k) ?_
      show Go p e below _ (T_279.setTop (mkF m 321 #[s0, s1, s2, s3, s4, s5, s6, s7, s8, s9, s10, vR r1, .val .null] []))
      obtain ⟨T_280, X_280, e_280, st_280⟩ := getS2 X_279 hx hZ_273 hown_273 (host := "") (Or.inl (wd_47 hw)) Via.refl e_279 (S_ea.ext O_273.2) (g := (mkF m 321 #[s0, s1, s2, s3, s4, s5, s6, s7, s8, s9, s10, vR r1, .val .null] [])) rfl (hb hby at_321)
      refine Go.step st_280 ?_
      show Go p e below _ (T_280.setTop (mkF m 324 #[s0, s1, s2, s3, s4, s5, s6, s7, s8, s9, s10, vR r1, .val .null] [(.ref ea)]))
      refine Go.step (fun _ k => XS.astore X_280.here hx rfl (hb hby at_324) rfl rfl (l' := #[s0, s1, s2, s3, s4, s5, s6, s7, s8, s9, s10, vR r1, vR ea]) rfl k) ?_
      show Go p e below _ (T_280.setTop (mkF m 326 #[s0, s1, s2, s3, s4, s5, s6, s7, s8, s9, s10, vR r1, vR ea] []))
      refine Go.step (fun _ k => XS.goto X_280.here hx rfl (pc0 := 326) (pc' := 344) rfl (hb hby at_326) (by decide) (by decide) k) ?_
      show Go p e below _ (T_280.setTop (mkF m 344 #[s0, s1, s2, s3, s4, s5, s6, s7, s8, s9, s10, vR r1, vR ea] []))
      refine Go.step (fun _ k => XS.aload X_280.here hx rfl (hb hby at_344) rfl rfl k) ?_
      show Go p e below _ (T_280.setTop (mkF m 346 #[s0, s1, s2, s3, s4, s5, s6, s7, s8, s9, s10, vR r1, vR ea] [(.ref r1)]))
      obtain ⟨v_281, T_281, L_281, X_281, hQ_281, st_281⟩ := goS X_280 hx hZ_273 (y := Y_3) hown_273 (wd_50 hw) (wd_51 hw) (wd_48 hw) (wd_52 hw) (by decide) (backOf (W := 0) (rm_fw l Z a0 hw zc va kv ea eb wa wb (r1) (cs) h_273 n0 (Nat.le_trans Z0 KP_273.1) (f274.mono le_273) hSt O_273) hZ_273 (wd_52 hw) (wd_48 hw) (by decide) (by decide)) e_280 (g := (mkF m 346 #[s0, s1, s2, s3, s4, s5, s6, s7, s8, s9, s10, vR r1, vR ea] [(.ref r1)])) rfl (by rw [hml]; rfl) (argsL := [(.ref r1)]) (rest := []) rfl (lenOf pd_3 rfl) rfl (by show 2 * 0 + _ ≤ _; exact Nat.le_of_eq rfl) (hb hby at_346) (by (try dsimp only); omega) (by (try dsimp only); omega)
      obtain ⟨rfl, Nq_281, K_281⟩ := hQ_281
      have N_281 := Fr.app N_279 Nq_281
      have C_281 := CHr.keep K_281 sf0 C_273.1
      have CR_281 := CHr.trans CR_273 C_281
      have le_281 : h_273.size ≤ T_281.heap.size := K_281.1
      have KP_281 := KP_273.trans K_281 all0
      have O_281 := O_273.keep K_281 all0
      refine Go.step st_281 ?_
      show Go p e below _ (T_281.setTop (mkF m 349 #[s0, s1, s2, s3, s4, s5, s6, s7, s8, s9, s10, vR r1, vR ea] [(fwv ea eb cs)]))
      refine Go.step (fun _ k => XS.aload X_281.here hx rfl (hb hby at_349) rfl rfl k) ?_
      show Go p e below _ (T_281.setTop (mkF m 351 #[s0, s1, s2, s3, s4, s5, s6, s7, s8, s9, s10, vR r1, vR ea] [(.ref ea), (fwv ea eb cs)]))
      refine Go.step (fun _ k => Jvm.RoadKit.acmp (g := (mkF m 351 #[s0, s1, s2, s3, s4, s5, s6, s7, s8, s9, s10, vR r1, vR ea] [(.ref ea), (fwv ea eb cs)])) X_281 hx rfl fwv_ref rfl (pc0 := 351) (pc' := 354) (same := true) rfl (hb hby at_351) rfl (decide_eq_true (by rw [fwv, if_pos u0])) (by decide) (by decide) k) ?_
      show Go p e below _ (T_281.setTop (mkF m 354 #[s0, s1, s2, s3, s4, s5, s6, s7, s8, s9, s10, vR r1, vR ea] []))
      refine Go.step (fun _ k => XS.iconst X_281.here hx rfl (hb hby at_354) k) ?_
      show Go p e below _ (T_281.setTop (mkF m 355 #[s0, s1, s2, s3, s4, s5, s6, s7, s8, s9, s10, vR r1, vR ea] [(.int (1 : Int32))]))
      refine Go.step (fun _ k => XS.goto X_281.here hx rfl (pc0 := 355) (pc' := 359) rfl (hb hby at_355) (by decide) (by decide) k) ?_
      show Go p e below _ (T_281.setTop (mkF m 359 #[s0, s1, s2, s3, s4, s5, s6, s7, s8, s9, s10, vR r1, vR ea] [(.int (1 : Int32))]))
      exact Go.retVW X_281 rfl hS_273 (Nat.le_trans hk_273 le_281) hZ_273 hEL hh0 CR_281 hx hlk hret rfl (Or.inl ⟨rfl, Or.inr (Or.inl rfl), _, rfl⟩) (hb hby at_359) (by (try dsimp only); omega) (by (try dsimp only); omega) (by exact ⟨rfl, N_281⟩)
    · skip
      refine Go.step (fun _ k => XS.ifYes X_279.here hx rfl (pc0 := 318) (pc' := 329) rfl (hb hby at_318) rfl ((if0 _ _).trans (teq (b01_eq u0)).1) (by decide) (by decide) k) ?_
      show Go p e below _ (T_279.setTop (mkF m 329 #[s0, s1, s2, s3, s4, s5, s6, s7, s8, s9, s10, vR r1, .val .null] []))
      refine Go.step (fun _ k => XS.aload X_279.here hx rfl (hb hby at_329) rfl rfl k) ?_
      show Go p e below _ (T_279.setTop (mkF m 331 #[s0, s1, s2, s3, s4, s5, s6, s7, s8, s9, s10, vR r1, .val .null] [(.ref r1)]))
      obtain ⟨a_282, T_282, h_282, k1_282, t_282, kb_282, X_282, e_282, E_282, hS_282, hk_282, hZ_282, hown_282, Ex_282, Fc_282, Fv_282, Av_282, lta_282, ltb_282, C_282, Lt_282, -, st_282⟩ := ldcCH X_279 hx hZ_273 hown_273 (wd_77 hw) hwS e_279 hS_273 hk_273 hEL (by decide) C_273.1 (vs := [(.int (99 : Int32)), (.int (114 : Int32)), (.int (101 : Int32)), (.int (100 : Int32)), (.int (105 : Int32)), (.int (116 : Int32))]) (z := (6 : Int32)) ⟨by decide, by decide⟩ (by decide) (by decide) (g := (mkF m 331 #[s0, s1, s2, s3, s4, s5, s6, s7, s8, s9, s10, vR r1, .val .null] [(.ref r1)])) rfl (hb hby at_331) (n := 24) (by decide) (by decide) (by (try dsimp only); omega) (by (try dsimp only); omega)
      refine Go.step st_282 ?_
      have CR_282 := CHr.trans CR_273 C_282
      have le_282 : h_273.size ≤ h_282.size := E_282.1
      have KP_282 := KP_273.ext E_282
      have O_282 := O_273.ext E_282
      have Sx_282 : Str Z h_282.size h_282 a_282 ([(99 : Int32), (114 : Int32), (101 : Int32), (100 : Int32), (105 : Int32), (116 : Int32)] : List Int32) := ⟨t_282, kb_282, lta_282, ltb_282, Ex_282, Fv_282, Fc_282, Av_282, by decide, by decide⟩
      show Go p e below _ (T_282.setTop (mkF m 333 #[s0, s1, s2, s3, s4, s5, s6, s7, s8, s9, s10, vR r1, .val .null] [(.ref a_282), (.ref r1)]))
      have f283 : Str Z h0.size h_282 r1 cs := (f274.ext E_282)
      have cp284 := f283
      obtain ⟨t285, kb285, -, -, Ex285, Fv285, Fc285, Av285, hl285, hn285⟩ := cp284
      have cp286 := Sx_282
      obtain ⟨t287, kb287, -, -, Ex287, Fv287, Fc287, Av287, hl287, hn287⟩ := cp286
      obtain ⟨v_288, T_288, L_288, X_288, hQ_288, st_288⟩ := goV X_282 hx hZ_282 (y := Y_1) (z := Y_1) (kc := 0) (ks := 0) (QQ := fun v h' L => ((v = some (.int 1) ∧ cs = ([(99 : Int32), (114 : Int32), (101 : Int32), (100 : Int32), (105 : Int32), (116 : Int32)] : List Int32)) ∨ (v = some (.int 0) ∧ ¬ cs = ([(99 : Int32), (114 : Int32), (101 : Int32), (100 : Int32), (105 : Int32), (116 : Int32)] : List Int32))) ∧ L = [] ∧ h' = h_282) hown_282 (wd_37 hw) (wd_38 hw) (notFace_of_selects (args := #[]) (mvT hZ_282 (wd_40 hw))) (wd_40 hw) (wd_39 hw) (by decide) (StrChars.Road.eqW (W := 0) hZ_282 (sw_wordsEq hw) (kI := 4) (wd_2 hw) Ex285 Fv285 Fc285 Av285 (StrChars.Road.codOf rfl (fun c hc => (hl285 c hc).2)) (up255 hl285) hn285 Ex287 Fv287 Fc287 Av287 (StrChars.Road.codOf rfl (fun c hc => (hl287 c hc).2)) (up255 hl287) hn287 (S_cs.ext O_282.2) n_cs (by decide) (by decide)) e_282 Ex285 (g := (mkF m 333 #[s0, s1, s2, s3, s4, s5, s6, s7, s8, s9, s10, vR r1, .val .null] [(.ref a_282), (.ref r1)])) rfl (by rw [hml]; rfl) (argsL := [(.ref a_282)]) (rest := []) rfl (lenOf pd_1 rfl) rfl (by show 2 * 0 + _ ≤ _; exact Nat.le_of_eq rfl) (hb hby at_333) (by (try dsimp only); omega) (by (try dsimp only); omega)
      obtain ⟨hv_288, rfl, e_288⟩ := hQ_288
      obtain rfl := eqv_if hv_288
      have N_288 := Fr.app N_279 (Fr.nil n0)
      refine Go.step st_288 ?_
      show Go p e below _ (T_288.setTop (mkF m 336 #[s0, s1, s2, s3, s4, s5, s6, s7, s8, s9, s10, vR r1, .val .null] [(.int (if cs = ([(99 : Int32), (114 : Int32), (101 : Int32), (100 : Int32), (105 : Int32), (116 : Int32)] : List Int32) then (1 : Int32) else 0))]))
      by_cases u1 : cs = ([(99 : Int32), (114 : Int32), (101 : Int32), (100 : Int32), (105 : Int32), (116 : Int32)] : List Int32)
      · skip
        refine Go.step (fun _ k => XS.ifNo X_288.here hx rfl (hb hby at_336) rfl ((if0 _ _).trans (feq (b01_ne u1)).1) k) ?_
        show Go p e below _ (T_288.setTop (mkF m 339 #[s0, s1, s2, s3, s4, s5, s6, s7, s8, s9, s10, vR r1, .val .null] []))
        obtain ⟨T_289, X_289, e_289, st_289⟩ := getS2 X_288 hx hZ_282 hown_282 (host := "") (Or.inl (wd_78 hw)) Via.refl e_288 (S_eb.ext O_282.2) (g := (mkF m 339 #[s0, s1, s2, s3, s4, s5, s6, s7, s8, s9, s10, vR r1, .val .null] [])) rfl (hb hby at_339)
        refine Go.step st_289 ?_
        show Go p e below _ (T_289.setTop (mkF m 342 #[s0, s1, s2, s3, s4, s5, s6, s7, s8, s9, s10, vR r1, .val .null] [(.ref eb)]))
        refine Go.step (fun _ k => XS.astore X_289.here hx rfl (hb hby at_342) rfl rfl (l' := #[s0, s1, s2, s3, s4, s5, s6, s7, s8, s9, s10, vR r1, vR eb]) rfl k) ?_
        show Go p e below _ (T_289.setTop (mkF m 344 #[s0, s1, s2, s3, s4, s5, s6, s7, s8, s9, s10, vR r1, vR eb] []))
        refine Go.step (fun _ k => XS.aload X_289.here hx rfl (hb hby at_344) rfl rfl k) ?_
        show Go p e below _ (T_289.setTop (mkF m 346 #[s0, s1, s2, s3, s4, s5, s6, s7, s8, s9, s10, vR r1, vR eb] [(.ref r1)]))
        obtain ⟨v_290, T_290, L_290, X_290, hQ_290, st_290⟩ := goS X_289 hx hZ_282 (y := Y_3) hown_282 (wd_50 hw) (wd_51 hw) (wd_48 hw) (wd_52 hw) (by decide) (backOf (W := 0) (rm_fw l Z a0 hw zc va kv ea eb wa wb (r1) (cs) h_282 n0 (Nat.le_trans Z0 KP_282.1) (f283.mono (Nat.le_trans le_273 le_282)) hSt O_282) hZ_282 (wd_52 hw) (wd_48 hw) (by decide) (by decide)) e_289 (g := (mkF m 346 #[s0, s1, s2, s3, s4, s5, s6, s7, s8, s9, s10, vR r1, vR eb] [(.ref r1)])) rfl (by rw [hml]; rfl) (argsL := [(.ref r1)]) (rest := []) rfl (lenOf pd_3 rfl) rfl (by show 2 * 0 + _ ≤ _; exact Nat.le_of_eq rfl) (hb hby at_346) (by (try dsimp only); omega) (by (try dsimp only); omega)
        obtain ⟨rfl, Nq_290, K_290⟩ := hQ_290
        have N_290 := Fr.app N_288 Nq_290
        have C_290 := CHr.keep K_290 sf0 C_282.1
        have CR_290 := CHr.trans CR_282 C_290
        have le_290 : h_282.size ≤ T_290.heap.size := K_290.1
        have KP_290 := KP_282.trans K_290 all0
        have O_290 := O_282.keep K_290 all0
        refine Go.step st_290 ?_
        show Go p e below _ (T_290.setTop (mkF m 349 #[s0, s1, s2, s3, s4, s5, s6, s7, s8, s9, s10, vR r1, vR eb] [(fwv ea eb cs)]))
        refine Go.step (fun _ k => XS.aload X_290.here hx rfl (hb hby at_349) rfl rfl k) ?_
        show Go p e below _ (T_290.setTop (mkF m 351 #[s0, s1, s2, s3, s4, s5, s6, s7, s8, s9, s10, vR r1, vR eb] [(.ref eb), (fwv ea eb cs)]))
        refine Go.step (fun _ k => Jvm.RoadKit.acmp (g := (mkF m 351 #[s0, s1, s2, s3, s4, s5, s6, s7, s8, s9, s10, vR r1, vR eb] [(.ref eb), (fwv ea eb cs)])) X_290 hx rfl fwv_ref rfl (pc0 := 351) (pc' := 354) (same := true) rfl (hb hby at_351) rfl (decide_eq_true (by rw [fwv, if_neg u0, if_pos u1])) (by decide) (by decide) k) ?_
        show Go p e below _ (T_290.setTop (mkF m 354 #[s0, s1, s2, s3, s4, s5, s6, s7, s8, s9, s10, vR r1, vR eb] []))
        refine Go.step (fun _ k => XS.iconst X_290.here hx rfl (hb hby at_354) k) ?_
        show Go p e below _ (T_290.setTop (mkF m 355 #[s0, s1, s2, s3, s4, s5, s6, s7, s8, s9, s10, vR r1, vR eb] [(.int (1 : Int32))]))
        refine Go.step (fun _ k => XS.goto X_290.here hx rfl (pc0 := 355) (pc' := 359) rfl (hb hby at_355) (by decide) (by decide) k) ?_
        show Go p e below _ (T_290.setTop (mkF m 359 #[s0, s1, s2, s3, s4, s5, s6, s7, s8, s9, s10, vR r1, vR eb] [(.int (1 : Int32))]))
        exact Go.retVW X_290 rfl hS_282 (Nat.le_trans hk_282 le_290) hZ_282 hEL hh0 CR_290 hx hlk hret rfl (Or.inl ⟨rfl, Or.inr (Or.inl rfl), _, rfl⟩) (hb hby at_359) (by (try dsimp only); omega) (by (try dsimp only); omega) (by exact ⟨rfl, N_290⟩)
      · skip
        refine Go.step (fun _ k => XS.ifYes X_288.here hx rfl (pc0 := 336) (pc' := 344) rfl (hb hby at_336) rfl ((if0 _ _).trans (teq (b01_eq u1)).1) (by decide) (by decide) k) ?_
        show Go p e below _ (T_288.setTop (mkF m 344 #[s0, s1, s2, s3, s4, s5, s6, s7, s8, s9, s10, vR r1, .val .null] []))
        refine Go.step (fun _ k => XS.aload X_288.here hx rfl (hb hby at_344) rfl rfl k) ?_
        show Go p e below _ (T_288.setTop (mkF m 346 #[s0, s1, s2, s3, s4, s5, s6, s7, s8, s9, s10, vR r1, .val .null] [(.ref r1)]))
        obtain ⟨v_291, T_291, L_291, X_291, hQ_291, st_291⟩ := goS X_288 hx hZ_282 (y := Y_3) hown_282 (wd_50 hw) (wd_51 hw) (wd_48 hw) (wd_52 hw) (by decide) (backOf (W := 0) (rm_fw l Z a0 hw zc va kv ea eb wa wb (r1) (cs) h_282 n0 (Nat.le_trans Z0 KP_282.1) (f283.mono (Nat.le_trans le_273 le_282)) hSt O_282) hZ_282 (wd_52 hw) (wd_48 hw) (by decide) (by decide)) e_288 (g := (mkF m 346 #[s0, s1, s2, s3, s4, s5, s6, s7, s8, s9, s10, vR r1, .val .null] [(.ref r1)])) rfl (by rw [hml]; rfl) (argsL := [(.ref r1)]) (rest := []) rfl (lenOf pd_3 rfl) rfl (by show 2 * 0 + _ ≤ _; exact Nat.le_of_eq rfl) (hb hby at_346) (by (try dsimp only); omega) (by (try dsimp only); omega)
        obtain ⟨rfl, Nq_291, K_291⟩ := hQ_291
        have N_291 := Fr.app N_288 Nq_291
        have C_291 := CHr.keep K_291 sf0 C_282.1
        have CR_291 := CHr.trans CR_282 C_291
        have le_291 : h_282.size ≤ T_291.heap.size := K_291.1
        have KP_291 := KP_282.trans K_291 all0
        have O_291 := O_282.keep K_291 all0
        refine Go.step st_291 ?_
        show Go p e below _ (T_291.setTop (mkF m 349 #[s0, s1, s2, s3, s4, s5, s6, s7, s8, s9, s10, vR r1, .val .null] [(fwv ea eb cs)]))
        refine Go.step (fun _ k => XS.aload X_291.here hx rfl (hb hby at_349) rfl rfl k) ?_
        show Go p e below _ (T_291.setTop (mkF m 351 #[s0, s1, s2, s3, s4, s5, s6, s7, s8, s9, s10, vR r1, .val .null] [.null, (fwv ea eb cs)]))
        refine Go.step (fun _ k => Jvm.RoadKit.acmp (g := (mkF m 351 #[s0, s1, s2, s3, s4, s5, s6, s7, s8, s9, s10, vR r1, .val .null] [.null, (fwv ea eb cs)])) X_291 hx rfl fwv_ref rfl (pc0 := 351) (pc' := 354) (same := true) rfl (hb hby at_351) rfl (decide_eq_true (by rw [fwv, if_neg u0, if_neg u1])) (by decide) (by decide) k) ?_
        show Go p e below _ (T_291.setTop (mkF m 354 #[s0, s1, s2, s3, s4, s5, s6, s7, s8, s9, s10, vR r1, .val .null] []))
        refine Go.step (fun _ k => XS.iconst X_291.here hx rfl (hb hby at_354) k) ?_
        show Go p e below _ (T_291.setTop (mkF m 355 #[s0, s1, s2, s3, s4, s5, s6, s7, s8, s9, s10, vR r1, .val .null] [(.int (1 : Int32))]))
        refine Go.step (fun _ k => XS.goto X_291.here hx rfl (pc0 := 355) (pc' := 359) rfl (hb hby at_355) (by decide) (by decide) k) ?_
        show Go p e below _ (T_291.setTop (mkF m 359 #[s0, s1, s2, s3, s4, s5, s6, s7, s8, s9, s10, vR r1, .val .null] [(.int (1 : Int32))]))
        exact Go.retVW X_291 rfl hS_282 (Nat.le_trans hk_282 le_291) hZ_282 hEL hh0 CR_291 hx hlk hret rfl (Or.inl ⟨rfl, Or.inr (Or.inl rfl), _, rfl⟩) (hb hby at_359) (by (try dsimp only); omega) (by (try dsimp only); omega) (by exact ⟨rfl, N_291⟩)
--@E
--@C tailN
set_option maxRecDepth 65536 in
set_option maxHeartbeats 40000000 in
theorem tg_tailN (l : Launch) (Z : State) (a0 : Array Value) (hw : ∀ d ∈ tables_1, d.before a0 Z = true) (zc : Int32) (va : Addr) (kv : ClassId) (ea : Addr) (eb : Addr) (wa : Addr) (wb : Addr) (s0 : Slot) (s1 : Slot) (s2 : Slot) (s3 : Slot) (s4 : Slot) (s5 : Slot) (s6 : Slot) (s7 : Slot) (s8 : Slot) (s9 : Slot) (s10 : Slot) (h0 : Heap) (n0 : Nat) (Z0 : n0 ≤ h0.size) (hSt : St Z zc va kv ea eb wa wb) (hO : Old Z n0 h0)
    {p : Program} {e : Env} {s : State} {m : MethodId} {args : Array Value} {below : List Frame} {meth : Method} {c : Code} {T : State} {locs : List Loc} {cells slots : Nat} {vm0 : Vm} {k0 : Nat} {hb0 : Heap}
    (hx : p.tables.exec = Jvm.exec) (hby : c.code = code) (hml : c.maxLocals = maxLocals) (hret : meth.sig.returnType = some .boolean) (hlk : meth.locks = false) (hZ : Z.Warmed39 vm0) (hown : vm0.findClass "com/example/patient_ledger/patientledger/EntryTypeFromWireNamePinLaw" = some m.cls) (X0 : Stand p l e room_1 (s.setVm vm0) m args below meth c T locs cells slots) (e0 : T.heap = h0) (N0 : Fr n0 locs) (hS0 : s.Since vm0 k0) (hk0 : k0 ≤ h0.size) (CV0 : CHv Z EL vm0 h0) (CR0 : CHr Z EL s.vm hb0 vm0 h0) (hh0 : s.heap = hb0) (hc : cells + 1 ≤ room_1.cells) (hs : slots + 2 ≤ room_1.slots) :
    Go p e below (QW Z EL s room_1 (fun v _ L => v = some (.int (1 : Int32)) ∧ Fr n0 L)) (T.setTop (mkF m 303 #[s0, s1, s2, s3, s4, s5, s6, s7, s8, s9, s10, .val .null, .unset] [])) := by
  have hEL := hEL_ (a0 := a0) hw
  have hwS := hwS_ hw
  have KP0 := Keep.refl h0 []
  have hSt_ := hSt
  obtain ⟨S_cs, n_cs, S_va, E_va, A_va, S_ea, F_ea, S_wa, S_eb, F_eb, S_wb⟩ := hSt_
  show Go p e below _ (T.setTop (mkF m 303 #[s0, s1, s2, s3, s4, s5, s6, s7, s8, s9, s10, .val .null, vU] []))
  refine Go.step (fun _ k => XS.aconstNull X0.here hx rfl (hb hby at_303) k) ?_
  show Go p e below _ (T.setTop (mkF m 304 #[s0, s1, s2, s3, s4, s5, s6, s7, s8, s9, s10, .val .null, vU] [.null]))
  refine Go.step (fun _ k => XS.astore X0.here hx rfl (hb hby at_304) rfl rfl (l' := #[s0, s1, s2, s3, s4, s5, s6, s7, s8, s9, s10, .val .null, .val .null]) rfl k) ?_
  show Go p e below _ (T.setTop (mkF m 306 #[s0, s1, s2, s3, s4, s5, s6, s7, s8, s9, s10, .val .null, .val .null] []))
  refine Go.step (fun _ k => XS.aload X0.here hx rfl (hb hby at_306) rfl rfl k) ?_
  show Go p e below _ (T.setTop (mkF m 308 #[s0, s1, s2, s3, s4, s5, s6, s7, s8, s9, s10, .val .null, .val .null] [.null]))
  refine Go.step (fun _ k => XS.ifnullYes X0.here hx rfl (pc0 := 308) (pc' := 344) rfl (hb hby at_308) rfl (by decide) (by decide) k) ?_
  show Go p e below _ (T.setTop (mkF m 344 #[s0, s1, s2, s3, s4, s5, s6, s7, s8, s9, s10, .val .null, .val .null] []))
  refine Go.step (fun _ k => XS.aload X0.here hx rfl (hb hby at_344) rfl rfl k) ?_
  show Go p e below _ (T.setTop (mkF m 346 #[s0, s1, s2, s3, s4, s5, s6, s7, s8, s9, s10, .val .null, .val .null] [.null]))
  obtain ⟨v_292, T_292, L_292, X_292, hQ_292, st_292⟩ := goS X0 hx hZ (y := Y_3) hown (wd_50 hw) (wd_51 hw) (wd_48 hw) (wd_52 hw) (by decide) (backOf (W := 0) (rm_fwN l Z a0 hw zc va kv ea eb wa wb h0 n0 (Nat.le_trans Z0 KP0.1) hSt hO) hZ (wd_52 hw) (wd_48 hw) (by decide) (by decide)) e0 (g := (mkF m 346 #[s0, s1, s2, s3, s4, s5, s6, s7, s8, s9, s10, .val .null, .val .null] [.null])) rfl (by rw [hml]; rfl) (argsL := [.null]) (rest := []) rfl (lenOf pd_3 rfl) rfl (by show 2 * 0 + _ ≤ _; exact Nat.le_of_eq rfl) (hb hby at_346) (by (try dsimp only); omega) (by (try dsimp only); omega)
  obtain ⟨rfl, Nq_292, K_292⟩ := hQ_292
  have N_292 := Fr.app N0 Nq_292
  have C_292 := CHr.keep K_292 sf0 CV0
  have CR_292 := CHr.trans CR0 C_292
  have le_292 : h0.size ≤ T_292.heap.size := K_292.1
  have KP_292 := KP0.trans K_292 all0
  have O_292 := hO.keep K_292 all0
  refine Go.step st_292 ?_
  show Go p e below _ (T_292.setTop (mkF m 349 #[s0, s1, s2, s3, s4, s5, s6, s7, s8, s9, s10, .val .null, .val .null] [.null]))
  refine Go.step (fun _ k => XS.aload X_292.here hx rfl (hb hby at_349) rfl rfl k) ?_
  show Go p e below _ (T_292.setTop (mkF m 351 #[s0, s1, s2, s3, s4, s5, s6, s7, s8, s9, s10, .val .null, .val .null] [.null, .null]))
  refine Go.step (fun _ k => Jvm.RoadKit.acmp (g := (mkF m 351 #[s0, s1, s2, s3, s4, s5, s6, s7, s8, s9, s10, .val .null, .val .null] [.null, .null])) X_292 hx rfl rfl rfl (pc0 := 351) (pc' := 354) (same := true) rfl (hb hby at_351) rfl (decide_eq_true rfl) (by decide) (by decide) k) ?_
  show Go p e below _ (T_292.setTop (mkF m 354 #[s0, s1, s2, s3, s4, s5, s6, s7, s8, s9, s10, .val .null, .val .null] []))
  refine Go.step (fun _ k => XS.iconst X_292.here hx rfl (hb hby at_354) k) ?_
  show Go p e below _ (T_292.setTop (mkF m 355 #[s0, s1, s2, s3, s4, s5, s6, s7, s8, s9, s10, .val .null, .val .null] [(.int (1 : Int32))]))
  refine Go.step (fun _ k => XS.goto X_292.here hx rfl (pc0 := 355) (pc' := 359) rfl (hb hby at_355) (by decide) (by decide) k) ?_
  show Go p e below _ (T_292.setTop (mkF m 359 #[s0, s1, s2, s3, s4, s5, s6, s7, s8, s9, s10, .val .null, .val .null] [(.int (1 : Int32))]))
  exact Go.retVW X_292 rfl hS0 (Nat.le_trans hk0 le_292) hZ hEL hh0 CR_292 hx hlk hret rfl (Or.inl ⟨rfl, Or.inr (Or.inl rfl), _, rfl⟩) (hb hby at_359) (by (try dsimp only); omega) (by (try dsimp only); omega) (by exact ⟨rfl, N_292⟩)
--@E
--@C tailC
set_option maxRecDepth 65536 in
set_option maxHeartbeats 40000000 in
theorem tg_tailC (l : Launch) (Z : State) (a0 : Array Value) (hw : ∀ d ∈ tables_1, d.before a0 Z = true) (zc : Int32) (va : Addr) (kv : ClassId) (ea : Addr) (eb : Addr) (wa : Addr) (wb : Addr) (s0 : Slot) (s1 : Slot) (s2 : Slot) (s3 : Slot) (s4 : Slot) (s5 : Slot) (s6 : Slot) (s7 : Slot) (s8 : Slot) (s12 : Slot) (n1 : Int32) (a1 : Addr) (k1 : ClassId) (c0 : Int32) (c1 : Int32) (c2 : Int32) (c3 : Int32) (c4 : Int32) (c5 : Int32) (c6 : Int32) (c7 : Int32) (h0 : Heap) (n0 : Nat) (Z0 : n0 ≤ h0.size) (A_a1 : Arv Z h0 a1 k1 .char (8 : Int32) [(.int c0), (.int c1), (.int c2), (.int c3), (.int c4), (.int c5), (.int c6), (.int c7)] (.int (0 : Int32))) (l_c0 : (¬ c0 < 0 ∧ ¬ (255 : Int32) < c0)) (l_c1 : (¬ c1 < 0 ∧ ¬ (255 : Int32) < c1)) (l_c2 : (¬ c2 < 0 ∧ ¬ (255 : Int32) < c2)) (l_c3 : (¬ c3 < 0 ∧ ¬ (255 : Int32) < c3)) (l_c4 : (¬ c4 < 0 ∧ ¬ (255 : Int32) < c4)) (l_c5 : (¬ c5 < 0 ∧ ¬ (255 : Int32) < c5)) (l_c6 : (¬ c6 < 0 ∧ ¬ (255 : Int32) < c6)) (l_c7 : (¬ c7 < 0 ∧ ¬ (255 : Int32) < c7)) (hn1 : (0 ≤ n1.toInt ∧ n1.toInt ≤ 8)) (hs12 : (s12 = .unset ∨ ∃ z, s12 = .val (.int z))) (hSt : St Z zc va kv ea eb wa wb) (hO : Old Z n0 h0)
    {p : Program} {e : Env} {s : State} {m : MethodId} {args : Array Value} {below : List Frame} {meth : Method} {c : Code} {T : State} {locs : List Loc} {cells slots : Nat} {vm0 : Vm} {k0 : Nat} {hb0 : Heap}
    (hx : p.tables.exec = Jvm.exec) (hby : c.code = code) (hml : c.maxLocals = maxLocals) (hret : meth.sig.returnType = some .boolean) (hlk : meth.locks = false) (hZ : Z.Warmed39 vm0) (hown : vm0.findClass "com/example/patient_ledger/patientledger/EntryTypeFromWireNamePinLaw" = some m.cls) (X0 : Stand p l e room_1 (s.setVm vm0) m args below meth c T locs cells slots) (e0 : T.heap = h0) (N0 : Fr n0 locs) (hS0 : s.Since vm0 k0) (hk0 : k0 ≤ h0.size) (CV0 : CHv Z EL vm0 h0) (CR0 : CHr Z EL s.vm hb0 vm0 h0) (hh0 : s.heap = hb0) (hc : cells + 11 ≤ room_1.cells) (hs : slots + 74 ≤ room_1.slots) :
    Go p e below (QW Z EL s room_1 (fun v _ L => v = some (.int (1 : Int32)) ∧ Fr n0 L)) (T.setTop (mkF m 287 #[s0, s1, s2, s3, s4, s5, s6, s7, s8, .val (.ref a1), .val (.int n1), .val .null, s12] [])) := by
  have hEL := hEL_ (a0 := a0) hw
  have hwS := hwS_ hw
  have KP0 := Keep.refl h0 []
  have hSt_ := hSt
  obtain ⟨S_cs, n_cs, S_va, E_va, A_va, S_ea, F_ea, S_wa, S_eb, F_eb, S_wb⟩ := hSt_
  show Go p e below _ (T.setTop (mkF m 287 #[s0, s1, s2, s3, s4, s5, s6, s7, s8, vR a1, vI n1, .val .null, s12] []))
  rcases (range9 hn1) with rfl | rfl | rfl | rfl | rfl | rfl | rfl | rfl | rfl
  · skip
    show Go p e below _ (T.setTop (mkF m 287 #[s0, s1, s2, s3, s4, s5, s6, s7, s8, vR a1, vI 0, .val .null, s12] []))
    obtain ⟨T_293, h_293, X_293, e_293, E_293, A_293, D_293, Un_293, st_293⟩ := newO X0 hx hZ hown (wd_1 hw) (wd_2 hw) (wd_3 hw) e0 (g := (mkF m 287 #[s0, s1, s2, s3, s4, s5, s6, s7, s8, vR a1, vI 0, .val .null, s12] [])) rfl (hb hby at_287) (by (try dsimp only); omega) (by (try dsimp only); omega)
    obtain ⟨b293, q_293⟩ : ∃ z, z = h0.size := ⟨_, rfl⟩
    rw [← q_293] at A_293 D_293 Un_293 st_293
    refine Go.step st_293 ?_
    have C_293 := CHr.ext E_293 CV0
    have CR_293 := CHr.trans CR0 C_293
    have le_293 : h0.size ≤ h_293.size := E_293.1
    have KP_293 := KP0.ext E_293
    have O_293 := hO.ext E_293
    have ge_293 : h0.size ≤ b293 := Nat.le_of_eq q_293.symm
    have sz_b293 : h0.size ≤ b293 := Nat.le_trans (Nat.le_refl _) ge_293
    have g_b293 : n0 ≤ b293 := Nat.le_trans Z0 sz_b293
    have F_293_31 : Fld Z h_293 b293 "java/lang/String" "coder" "B" (.int (0 : Int32)) := D_293 (Or.inr (wd_31 hw)) (ty := .byte) pf_1
    have F_293_33 : Fld Z h_293 b293 "java/lang/String" "value" "[B" .null := D_293 (Or.inr (wd_33 hw)) (ty := (.array .byte)) pf_0
    have Sf_b293 := Safe.ext E_293 CV0 (Safe.new ge_293)
    show Go p e below _ (T_293.setTop (mkF m 290 #[s0, s1, s2, s3, s4, s5, s6, s7, s8, vR a1, vI 0, .val .null, s12] [(.ref b293)]))
    refine Go.step (fun _ k => XS.dup X_293.here hx rfl (hb hby at_290) rfl rfl k) ?_
    refine Go.step (fun _ k => XS.aload X_293.here hx rfl (hb hby at_291) rfl rfl k) ?_
    refine Go.step (fun _ k => XS.iload X_293.here hx rfl (hb hby at_293) rfl  k) ?_
    show Go p e below _ (T_293.setTop (mkF m 295 #[s0, s1, s2, s3, s4, s5, s6, s7, s8, vR a1, vI 0, .val .null, s12] [(.int (0 : Int32)), (.ref a1), (.ref b293), (.ref b293)]))
    have f294 : Arv Z h_293 a1 k1 .char (8 : Int32) [(.int c0), (.int c1), (.int c2), (.int c3), (.int c4), (.int c5), (.int c6), (.int c7)] (.int (0 : Int32)) := (A_a1.ext E_293)
    obtain ⟨v_295, T_295, L_295, X_295, hQ_295, st_295⟩ := goS X_293 hx hZ (y := Y_4) hown (wd_4 hw) (wd_5 hw) (wd_6 hw) (wd_7 hw) (by decide) (backOf (W := 2) (rm_copy0 l Z a0 hw zc va kv ea eb wa wb (a1) (k1) (c0) (c1) (c2) (c3) (c4) (c5) (c6) (c7) h_293 n0 (Nat.le_trans Z0 KP_293.1) f294 l_c0 l_c1 l_c2 l_c3 l_c4 l_c5 l_c6 l_c7 hSt O_293) hZ (wd_7 hw) (wd_6 hw) (by decide) (by decide)) e_293 (g := (mkF m 295 #[s0, s1, s2, s3, s4, s5, s6, s7, s8, vR a1, vI 0, .val .null, s12] [(.int (0 : Int32)), (.ref a1), (.ref b293), (.ref b293)])) rfl (by rw [hml]; rfl) (argsL := [(.ref a1), (.int (0 : Int32))]) (rest := [(.ref b293), (.ref b293)]) rfl (lenOf pd_4 rfl) rfl (by show 2 * 0 + _ ≤ _; exact Nat.le_of_eq rfl) (hb hby at_295) (by (try dsimp only); omega) (by (try dsimp only); omega)
    obtain ⟨r_295, kr_295, rfl, Nq_295, K_295, u0_295, u1_295⟩ := hQ_295
    have N_295 := Fr.app N0 Nq_295
    have C_295 := CHr.keep K_295 sf0 C_293.1
    have CR_295 := CHr.trans CR_293 C_295
    have le_295 : h_293.size ≤ T_295.heap.size := K_295.1
    have KP_295 := KP_293.trans K_295 all0
    have O_295 := O_293.keep K_295 all0
    have sz_r_295 : h0.size ≤ r_295 := Nat.le_trans le_293 u0_295
    have g_r_295 : n0 ≤ r_295 := Nat.le_trans Z0 sz_r_295
    have Sf_r_295 := Safe.keep K_295 sf0 C_293.1 (Safe.new u0_295)
    refine Go.step st_295 ?_
    show Go p e below _ (T_295.setTop (mkF m 298 #[s0, s1, s2, s3, s4, s5, s6, s7, s8, vR a1, vI 0, .val .null, s12] [(.ref r_295), (.ref b293), (.ref b293)]))
    have f296 : Exa Z T_295.heap b293 "java/lang/String" := (A_293.keep K_295)
    have f297 : Fld Z T_295.heap b293 "java/lang/String" "value" "[B" .null := (F_293_33.keep K_295 nin0)
    have f298 : Fld Z T_295.heap b293 "java/lang/String" "coder" "B" (.int (0 : Int32)) := (F_293_31.keep K_295 nin0)
    obtain ⟨v_299, T_299, L_299, X_299, hQ_299, hS_299, hZ_299, hown_299, C_299, st_299⟩ := goCW X_295 hx hZ (y := Y_5) hown hS0 (Nat.le_trans hk0 (Nat.le_trans le_293 le_295)) rfl (wd_8 hw) (wd_9 hw) (wd_10 hw) (by decide) (backOfSH (W := 1) (rm_init1e l Z a0 hw zc va kv ea eb wa wb (b293) (r_295) (kr_295) T_295.heap n0 (Nat.le_trans Z0 KP_295.1) f296 f297 f298 g_b293 u1_295 hSt O_295) hZ (wd_10 hw) (wd_3 hw) (by decide) (by decide) hEL C_295.1) rfl (g := (mkF m 298 #[s0, s1, s2, s3, s4, s5, s6, s7, s8, vR a1, vI 0, .val .null, s12] [(.ref r_295), (.ref b293), (.ref b293)])) rfl (by rw [hml]; rfl) (a := b293) (argsL := [(.ref r_295)]) (rest := [(.ref b293)]) rfl (lenOf pd_5 rfl) rfl (by show 2 * 0 + _ ≤ _; exact Nat.le_of_eq rfl) (hb hby at_298) (by (try dsimp only); omega) (by (try dsimp only); omega)
    obtain ⟨rfl, Nq_299, K_299, u0_299⟩ := hQ_299
    have N_299 := Fr.app N_295 Nq_299
    have CR_299 := CHr.trans CR_295 C_299
    have le_299 : T_295.heap.size ≤ T_299.heap.size := K_299.1
    have KP_299 := KP_295.trans K_299 (allS (Or.inr sz_b293) all0)
    have O_299 := O_295.keep K_299 (allS g_b293 all0)
    refine Go.step st_299 ?_
    show Go p e below _ (T_299.setTop (mkF m 301 #[s0, s1, s2, s3, s4, s5, s6, s7, s8, vR a1, vI 0, .val .null, s12] [(.ref b293)]))
    refine Go.step (fun _ k => XS.astore X_299.here hx rfl (hb hby at_301) rfl rfl (l' := #[s0, s1, s2, s3, s4, s5, s6, s7, s8, vR a1, vI 0, vR b293, s12]) rfl k) ?_
    show Go p e below _ (T_299.setTop (mkF m 303 #[s0, s1, s2, s3, s4, s5, s6, s7, s8, vR a1, vI 0, vR b293, s12] []))
    exact tg_tailS l Z a0 hw zc va kv ea eb wa wb ((s0)) ((s1)) ((s2)) ((s3)) ((s4)) ((s5)) ((s6)) ((s7)) ((s8)) ((vR a1)) ((vI 0)) ((s12)) (b293) (([] : List Int32)) T_299.heap n0 (Nat.le_trans Z0 KP_299.1) u0_299 hs12 hSt O_299 hx hby hml hret hlk hZ_299 hown_299 X_299 rfl N_299 hS_299 (Nat.le_refl _) C_299.1 CR_299 hh0 (by (try dsimp only); omega) (by (try dsimp only); omega)
  · skip
    show Go p e below _ (T.setTop (mkF m 287 #[s0, s1, s2, s3, s4, s5, s6, s7, s8, vR a1, vI 1, .val .null, s12] []))
    obtain ⟨T_300, h_300, X_300, e_300, E_300, A_300, D_300, Un_300, st_300⟩ := newO X0 hx hZ hown (wd_1 hw) (wd_2 hw) (wd_3 hw) e0 (g := (mkF m 287 #[s0, s1, s2, s3, s4, s5, s6, s7, s8, vR a1, vI 1, .val .null, s12] [])) rfl (hb hby at_287) (by (try dsimp only); omega) (by (try dsimp only); omega)
    obtain ⟨b300, q_300⟩ : ∃ z, z = h0.size := ⟨_, rfl⟩
    rw [← q_300] at A_300 D_300 Un_300 st_300
    refine Go.step st_300 ?_
    have C_300 := CHr.ext E_300 CV0
    have CR_300 := CHr.trans CR0 C_300
    have le_300 : h0.size ≤ h_300.size := E_300.1
    have KP_300 := KP0.ext E_300
    have O_300 := hO.ext E_300
    have ge_300 : h0.size ≤ b300 := Nat.le_of_eq q_300.symm
    have sz_b300 : h0.size ≤ b300 := Nat.le_trans (Nat.le_refl _) ge_300
    have g_b300 : n0 ≤ b300 := Nat.le_trans Z0 sz_b300
    have F_300_31 : Fld Z h_300 b300 "java/lang/String" "coder" "B" (.int (0 : Int32)) := D_300 (Or.inr (wd_31 hw)) (ty := .byte) pf_1
    have F_300_33 : Fld Z h_300 b300 "java/lang/String" "value" "[B" .null := D_300 (Or.inr (wd_33 hw)) (ty := (.array .byte)) pf_0
    have Sf_b300 := Safe.ext E_300 CV0 (Safe.new ge_300)
    show Go p e below _ (T_300.setTop (mkF m 290 #[s0, s1, s2, s3, s4, s5, s6, s7, s8, vR a1, vI 1, .val .null, s12] [(.ref b300)]))
    refine Go.step (fun _ k => XS.dup X_300.here hx rfl (hb hby at_290) rfl rfl k) ?_
    refine Go.step (fun _ k => XS.aload X_300.here hx rfl (hb hby at_291) rfl rfl k) ?_
    refine Go.step (fun _ k => XS.iload X_300.here hx rfl (hb hby at_293) rfl  k) ?_
    show Go p e below _ (T_300.setTop (mkF m 295 #[s0, s1, s2, s3, s4, s5, s6, s7, s8, vR a1, vI 1, .val .null, s12] [(.int (1 : Int32)), (.ref a1), (.ref b300), (.ref b300)]))
    have f301 : Arv Z h_300 a1 k1 .char (8 : Int32) [(.int c0), (.int c1), (.int c2), (.int c3), (.int c4), (.int c5), (.int c6), (.int c7)] (.int (0 : Int32)) := (A_a1.ext E_300)
    obtain ⟨v_302, T_302, L_302, X_302, hQ_302, st_302⟩ := goS X_300 hx hZ (y := Y_4) hown (wd_4 hw) (wd_5 hw) (wd_6 hw) (wd_7 hw) (by decide) (backOf (W := 2) (rm_copy1 l Z a0 hw zc va kv ea eb wa wb (a1) (k1) (c0) (c1) (c2) (c3) (c4) (c5) (c6) (c7) h_300 n0 (Nat.le_trans Z0 KP_300.1) f301 l_c0 l_c1 l_c2 l_c3 l_c4 l_c5 l_c6 l_c7 hSt O_300) hZ (wd_7 hw) (wd_6 hw) (by decide) (by decide)) e_300 (g := (mkF m 295 #[s0, s1, s2, s3, s4, s5, s6, s7, s8, vR a1, vI 1, .val .null, s12] [(.int (1 : Int32)), (.ref a1), (.ref b300), (.ref b300)])) rfl (by rw [hml]; rfl) (argsL := [(.ref a1), (.int (1 : Int32))]) (rest := [(.ref b300), (.ref b300)]) rfl (lenOf pd_4 rfl) rfl (by show 2 * 0 + _ ≤ _; exact Nat.le_of_eq rfl) (hb hby at_295) (by (try dsimp only); omega) (by (try dsimp only); omega)
    obtain ⟨r_302, kr_302, rfl, Nq_302, K_302, u0_302, u1_302⟩ := hQ_302
    have N_302 := Fr.app N0 Nq_302
    have C_302 := CHr.keep K_302 sf0 C_300.1
    have CR_302 := CHr.trans CR_300 C_302
    have le_302 : h_300.size ≤ T_302.heap.size := K_302.1
    have KP_302 := KP_300.trans K_302 all0
    have O_302 := O_300.keep K_302 all0
    have sz_r_302 : h0.size ≤ r_302 := Nat.le_trans le_300 u0_302
    have g_r_302 : n0 ≤ r_302 := Nat.le_trans Z0 sz_r_302
    have Sf_r_302 := Safe.keep K_302 sf0 C_300.1 (Safe.new u0_302)
    refine Go.step st_302 ?_
    show Go p e below _ (T_302.setTop (mkF m 298 #[s0, s1, s2, s3, s4, s5, s6, s7, s8, vR a1, vI 1, .val .null, s12] [(.ref r_302), (.ref b300), (.ref b300)]))
    have f303 : Exa Z T_302.heap b300 "java/lang/String" := (A_300.keep K_302)
    have f304 : Fld Z T_302.heap b300 "java/lang/String" "value" "[B" .null := (F_300_33.keep K_302 nin0)
    have f305 : Fld Z T_302.heap b300 "java/lang/String" "coder" "B" (.int (0 : Int32)) := (F_300_31.keep K_302 nin0)
    have hp306 : ∀ c ∈ ([c0] : List Int32), ¬ c < 0 ∧ ¬ (255 : Int32) < c := (latc l_c0 lat0)
    obtain ⟨v_307, T_307, L_307, X_307, hQ_307, st_307⟩ := goC X_302 hx hZ (y := Y_5) hown rfl (wd_8 hw) (wd_9 hw) (wd_10 hw) (by decide) (StrChars.Road.backV (W := 1) hZ (sw_words hw) (kI := 4) (wd_2 hw) (cs := ([c0] : List Int32)) (bs := ([c0] : List Int32).map (fun c => c.toInt8.toInt32)) (n := 1) g_b300 (Nat.le_trans Z0 KP_302.1) f303 f304 f305 u1_302 (S_cs.ext O_302.2) n_cs rfl rfl (by decide) (by decide) hp306 rfl (by decide) (by decide)) rfl (g := (mkF m 298 #[s0, s1, s2, s3, s4, s5, s6, s7, s8, vR a1, vI 1, .val .null, s12] [(.ref r_302), (.ref b300), (.ref b300)])) rfl (by rw [hml]; rfl) (a := b300) (argsL := [(.ref r_302)]) (rest := [(.ref b300)]) rfl (lenOf pd_5 rfl) rfl (by show 2 * 0 + _ ≤ _; exact Nat.le_of_eq rfl) (hb hby at_298) (by (try dsimp only); omega) (by (try dsimp only); omega)
    obtain ⟨rfl, Nq_307, K_307, Ex_307, Fc_307, t_307, kb_307, -, gt_307, -, Fv_307, Av_307⟩ := hQ_307
    have N_307 := Fr.app N_302 Nq_307
    have C_307 := CHr.keep K_307 (sfS (CHr.safe C_302 A_300.lt Sf_b300) sf0) C_302.1
    have CR_307 := CHr.trans CR_302 C_307
    have le_307 : T_302.heap.size ≤ T_307.heap.size := K_307.1
    have KP_307 := KP_302.trans K_307 (allS (Or.inr sz_b300) all0)
    have O_307 := O_302.keep K_307 (allS g_b300 all0)
    have Sx_307 : Str Z (T_307.heap).size (T_307.heap) b300 ([c0] : List Int32) := ⟨t_307, kb_307, Ex_307.lt, Av_307.lt, Ex_307, Fv_307, Fc_307, Av_307, hp306, Nat.le_of_ble_eq_true rfl⟩
    refine Go.step st_307 ?_
    show Go p e below _ (T_307.setTop (mkF m 301 #[s0, s1, s2, s3, s4, s5, s6, s7, s8, vR a1, vI 1, .val .null, s12] [(.ref b300)]))
    refine Go.step (fun _ k => XS.astore X_307.here hx rfl (hb hby at_301) rfl rfl (l' := #[s0, s1, s2, s3, s4, s5, s6, s7, s8, vR a1, vI 1, vR b300, s12]) rfl k) ?_
    show Go p e below _ (T_307.setTop (mkF m 303 #[s0, s1, s2, s3, s4, s5, s6, s7, s8, vR a1, vI 1, vR b300, s12] []))
    exact tg_tailS l Z a0 hw zc va kv ea eb wa wb ((s0)) ((s1)) ((s2)) ((s3)) ((s4)) ((s5)) ((s6)) ((s7)) ((s8)) ((vR a1)) ((vI 1)) ((s12)) (b300) (([c0] : List Int32)) T_307.heap n0 (Nat.le_trans Z0 KP_307.1) Sx_307 hs12 hSt O_307 hx hby hml hret hlk hZ hown X_307 rfl N_307 hS0 (Nat.le_trans hk0 (Nat.le_trans le_300 (Nat.le_trans le_302 le_307))) C_307.1 CR_307 hh0 (by (try dsimp only); omega) (by (try dsimp only); omega)
  · skip
    show Go p e below _ (T.setTop (mkF m 287 #[s0, s1, s2, s3, s4, s5, s6, s7, s8, vR a1, vI 2, .val .null, s12] []))
    obtain ⟨T_308, h_308, X_308, e_308, E_308, A_308, D_308, Un_308, st_308⟩ := newO X0 hx hZ hown (wd_1 hw) (wd_2 hw) (wd_3 hw) e0 (g := (mkF m 287 #[s0, s1, s2, s3, s4, s5, s6, s7, s8, vR a1, vI 2, .val .null, s12] [])) rfl (hb hby at_287) (by (try dsimp only); omega) (by (try dsimp only); omega)
    obtain ⟨b308, q_308⟩ : ∃ z, z = h0.size := ⟨_, rfl⟩
    rw [← q_308] at A_308 D_308 Un_308 st_308
    refine Go.step st_308 ?_
    have C_308 := CHr.ext E_308 CV0
    have CR_308 := CHr.trans CR0 C_308
    have le_308 : h0.size ≤ h_308.size := E_308.1
    have KP_308 := KP0.ext E_308
    have O_308 := hO.ext E_308
    have ge_308 : h0.size ≤ b308 := Nat.le_of_eq q_308.symm
    have sz_b308 : h0.size ≤ b308 := Nat.le_trans (Nat.le_refl _) ge_308
    have g_b308 : n0 ≤ b308 := Nat.le_trans Z0 sz_b308
    have F_308_31 : Fld Z h_308 b308 "java/lang/String" "coder" "B" (.int (0 : Int32)) := D_308 (Or.inr (wd_31 hw)) (ty := .byte) pf_1
    have F_308_33 : Fld Z h_308 b308 "java/lang/String" "value" "[B" .null := D_308 (Or.inr (wd_33 hw)) (ty := (.array .byte)) pf_0
    have Sf_b308 := Safe.ext E_308 CV0 (Safe.new ge_308)
    show Go p e below _ (T_308.setTop (mkF m 290 #[s0, s1, s2, s3, s4, s5, s6, s7, s8, vR a1, vI 2, .val .null, s12] [(.ref b308)]))
    refine Go.step (fun _ k => XS.dup X_308.here hx rfl (hb hby at_290) rfl rfl k) ?_
    refine Go.step (fun _ k => XS.aload X_308.here hx rfl (hb hby at_291) rfl rfl k) ?_
    refine Go.step (fun _ k => XS.iload X_308.here hx rfl (hb hby at_293) rfl  k) ?_
    show Go p e below _ (T_308.setTop (mkF m 295 #[s0, s1, s2, s3, s4, s5, s6, s7, s8, vR a1, vI 2, .val .null, s12] [(.int (2 : Int32)), (.ref a1), (.ref b308), (.ref b308)]))
    have f309 : Arv Z h_308 a1 k1 .char (8 : Int32) [(.int c0), (.int c1), (.int c2), (.int c3), (.int c4), (.int c5), (.int c6), (.int c7)] (.int (0 : Int32)) := (A_a1.ext E_308)
    obtain ⟨v_310, T_310, L_310, X_310, hQ_310, st_310⟩ := goS X_308 hx hZ (y := Y_4) hown (wd_4 hw) (wd_5 hw) (wd_6 hw) (wd_7 hw) (by decide) (backOf (W := 2) (rm_copy2 l Z a0 hw zc va kv ea eb wa wb (a1) (k1) (c0) (c1) (c2) (c3) (c4) (c5) (c6) (c7) h_308 n0 (Nat.le_trans Z0 KP_308.1) f309 l_c0 l_c1 l_c2 l_c3 l_c4 l_c5 l_c6 l_c7 hSt O_308) hZ (wd_7 hw) (wd_6 hw) (by decide) (by decide)) e_308 (g := (mkF m 295 #[s0, s1, s2, s3, s4, s5, s6, s7, s8, vR a1, vI 2, .val .null, s12] [(.int (2 : Int32)), (.ref a1), (.ref b308), (.ref b308)])) rfl (by rw [hml]; rfl) (argsL := [(.ref a1), (.int (2 : Int32))]) (rest := [(.ref b308), (.ref b308)]) rfl (lenOf pd_4 rfl) rfl (by show 2 * 0 + _ ≤ _; exact Nat.le_of_eq rfl) (hb hby at_295) (by (try dsimp only); omega) (by (try dsimp only); omega)
    obtain ⟨r_310, kr_310, rfl, Nq_310, K_310, u0_310, u1_310⟩ := hQ_310
    have N_310 := Fr.app N0 Nq_310
    have C_310 := CHr.keep K_310 sf0 C_308.1
    have CR_310 := CHr.trans CR_308 C_310
    have le_310 : h_308.size ≤ T_310.heap.size := K_310.1
    have KP_310 := KP_308.trans K_310 all0
    have O_310 := O_308.keep K_310 all0
    have sz_r_310 : h0.size ≤ r_310 := Nat.le_trans le_308 u0_310
    have g_r_310 : n0 ≤ r_310 := Nat.le_trans Z0 sz_r_310
    have Sf_r_310 := Safe.keep K_310 sf0 C_308.1 (Safe.new u0_310)
    refine Go.step st_310 ?_
    show Go p e below _ (T_310.setTop (mkF m 298 #[s0, s1, s2, s3, s4, s5, s6, s7, s8, vR a1, vI 2, .val .null, s12] [(.ref r_310), (.ref b308), (.ref b308)]))
    have f311 : Exa Z T_310.heap b308 "java/lang/String" := (A_308.keep K_310)
    have f312 : Fld Z T_310.heap b308 "java/lang/String" "value" "[B" .null := (F_308_33.keep K_310 nin0)
    have f313 : Fld Z T_310.heap b308 "java/lang/String" "coder" "B" (.int (0 : Int32)) := (F_308_31.keep K_310 nin0)
    have hp314 : ∀ c ∈ ([c0, c1] : List Int32), ¬ c < 0 ∧ ¬ (255 : Int32) < c := (latc l_c0 (latc l_c1 lat0))
    obtain ⟨v_315, T_315, L_315, X_315, hQ_315, st_315⟩ := goC X_310 hx hZ (y := Y_5) hown rfl (wd_8 hw) (wd_9 hw) (wd_10 hw) (by decide) (StrChars.Road.backV (W := 1) hZ (sw_words hw) (kI := 4) (wd_2 hw) (cs := ([c0, c1] : List Int32)) (bs := ([c0, c1] : List Int32).map (fun c => c.toInt8.toInt32)) (n := 2) g_b308 (Nat.le_trans Z0 KP_310.1) f311 f312 f313 u1_310 (S_cs.ext O_310.2) n_cs rfl rfl (by decide) (by decide) hp314 rfl (by decide) (by decide)) rfl (g := (mkF m 298 #[s0, s1, s2, s3, s4, s5, s6, s7, s8, vR a1, vI 2, .val .null, s12] [(.ref r_310), (.ref b308), (.ref b308)])) rfl (by rw [hml]; rfl) (a := b308) (argsL := [(.ref r_310)]) (rest := [(.ref b308)]) rfl (lenOf pd_5 rfl) rfl (by show 2 * 0 + _ ≤ _; exact Nat.le_of_eq rfl) (hb hby at_298) (by (try dsimp only); omega) (by (try dsimp only); omega)
    obtain ⟨rfl, Nq_315, K_315, Ex_315, Fc_315, t_315, kb_315, -, gt_315, -, Fv_315, Av_315⟩ := hQ_315
    have N_315 := Fr.app N_310 Nq_315
    have C_315 := CHr.keep K_315 (sfS (CHr.safe C_310 A_308.lt Sf_b308) sf0) C_310.1
    have CR_315 := CHr.trans CR_310 C_315
    have le_315 : T_310.heap.size ≤ T_315.heap.size := K_315.1
    have KP_315 := KP_310.trans K_315 (allS (Or.inr sz_b308) all0)
    have O_315 := O_310.keep K_315 (allS g_b308 all0)
    have Sx_315 : Str Z (T_315.heap).size (T_315.heap) b308 ([c0, c1] : List Int32) := ⟨t_315, kb_315, Ex_315.lt, Av_315.lt, Ex_315, Fv_315, Fc_315, Av_315, hp314, Nat.le_of_ble_eq_true rfl⟩
    refine Go.step st_315 ?_
    show Go p e below _ (T_315.setTop (mkF m 301 #[s0, s1, s2, s3, s4, s5, s6, s7, s8, vR a1, vI 2, .val .null, s12] [(.ref b308)]))
    refine Go.step (fun _ k => XS.astore X_315.here hx rfl (hb hby at_301) rfl rfl (l' := #[s0, s1, s2, s3, s4, s5, s6, s7, s8, vR a1, vI 2, vR b308, s12]) rfl k) ?_
    show Go p e below _ (T_315.setTop (mkF m 303 #[s0, s1, s2, s3, s4, s5, s6, s7, s8, vR a1, vI 2, vR b308, s12] []))
    exact tg_tailS l Z a0 hw zc va kv ea eb wa wb ((s0)) ((s1)) ((s2)) ((s3)) ((s4)) ((s5)) ((s6)) ((s7)) ((s8)) ((vR a1)) ((vI 2)) ((s12)) (b308) (([c0, c1] : List Int32)) T_315.heap n0 (Nat.le_trans Z0 KP_315.1) Sx_315 hs12 hSt O_315 hx hby hml hret hlk hZ hown X_315 rfl N_315 hS0 (Nat.le_trans hk0 (Nat.le_trans le_308 (Nat.le_trans le_310 le_315))) C_315.1 CR_315 hh0 (by (try dsimp only); omega) (by (try dsimp only); omega)
  · skip
    show Go p e below _ (T.setTop (mkF m 287 #[s0, s1, s2, s3, s4, s5, s6, s7, s8, vR a1, vI 3, .val .null, s12] []))
    obtain ⟨T_316, h_316, X_316, e_316, E_316, A_316, D_316, Un_316, st_316⟩ := newO X0 hx hZ hown (wd_1 hw) (wd_2 hw) (wd_3 hw) e0 (g := (mkF m 287 #[s0, s1, s2, s3, s4, s5, s6, s7, s8, vR a1, vI 3, .val .null, s12] [])) rfl (hb hby at_287) (by (try dsimp only); omega) (by (try dsimp only); omega)
    obtain ⟨b316, q_316⟩ : ∃ z, z = h0.size := ⟨_, rfl⟩
    rw [← q_316] at A_316 D_316 Un_316 st_316
    refine Go.step st_316 ?_
    have C_316 := CHr.ext E_316 CV0
    have CR_316 := CHr.trans CR0 C_316
    have le_316 : h0.size ≤ h_316.size := E_316.1
    have KP_316 := KP0.ext E_316
    have O_316 := hO.ext E_316
    have ge_316 : h0.size ≤ b316 := Nat.le_of_eq q_316.symm
    have sz_b316 : h0.size ≤ b316 := Nat.le_trans (Nat.le_refl _) ge_316
    have g_b316 : n0 ≤ b316 := Nat.le_trans Z0 sz_b316
    have F_316_31 : Fld Z h_316 b316 "java/lang/String" "coder" "B" (.int (0 : Int32)) := D_316 (Or.inr (wd_31 hw)) (ty := .byte) pf_1
    have F_316_33 : Fld Z h_316 b316 "java/lang/String" "value" "[B" .null := D_316 (Or.inr (wd_33 hw)) (ty := (.array .byte)) pf_0
    have Sf_b316 := Safe.ext E_316 CV0 (Safe.new ge_316)
    show Go p e below _ (T_316.setTop (mkF m 290 #[s0, s1, s2, s3, s4, s5, s6, s7, s8, vR a1, vI 3, .val .null, s12] [(.ref b316)]))
    refine Go.step (fun _ k => XS.dup X_316.here hx rfl (hb hby at_290) rfl rfl k) ?_
    refine Go.step (fun _ k => XS.aload X_316.here hx rfl (hb hby at_291) rfl rfl k) ?_
    refine Go.step (fun _ k => XS.iload X_316.here hx rfl (hb hby at_293) rfl  k) ?_
    show Go p e below _ (T_316.setTop (mkF m 295 #[s0, s1, s2, s3, s4, s5, s6, s7, s8, vR a1, vI 3, .val .null, s12] [(.int (3 : Int32)), (.ref a1), (.ref b316), (.ref b316)]))
    have f317 : Arv Z h_316 a1 k1 .char (8 : Int32) [(.int c0), (.int c1), (.int c2), (.int c3), (.int c4), (.int c5), (.int c6), (.int c7)] (.int (0 : Int32)) := (A_a1.ext E_316)
    obtain ⟨v_318, T_318, L_318, X_318, hQ_318, st_318⟩ := goS X_316 hx hZ (y := Y_4) hown (wd_4 hw) (wd_5 hw) (wd_6 hw) (wd_7 hw) (by decide) (backOf (W := 2) (rm_copy3 l Z a0 hw zc va kv ea eb wa wb (a1) (k1) (c0) (c1) (c2) (c3) (c4) (c5) (c6) (c7) h_316 n0 (Nat.le_trans Z0 KP_316.1) f317 l_c0 l_c1 l_c2 l_c3 l_c4 l_c5 l_c6 l_c7 hSt O_316) hZ (wd_7 hw) (wd_6 hw) (by decide) (by decide)) e_316 (g := (mkF m 295 #[s0, s1, s2, s3, s4, s5, s6, s7, s8, vR a1, vI 3, .val .null, s12] [(.int (3 : Int32)), (.ref a1), (.ref b316), (.ref b316)])) rfl (by rw [hml]; rfl) (argsL := [(.ref a1), (.int (3 : Int32))]) (rest := [(.ref b316), (.ref b316)]) rfl (lenOf pd_4 rfl) rfl (by show 2 * 0 + _ ≤ _; exact Nat.le_of_eq rfl) (hb hby at_295) (by (try dsimp only); omega) (by (try dsimp only); omega)
    obtain ⟨r_318, kr_318, rfl, Nq_318, K_318, u0_318, u1_318⟩ := hQ_318
    have N_318 := Fr.app N0 Nq_318
    have C_318 := CHr.keep K_318 sf0 C_316.1
    have CR_318 := CHr.trans CR_316 C_318
    have le_318 : h_316.size ≤ T_318.heap.size := K_318.1
    have KP_318 := KP_316.trans K_318 all0
    have O_318 := O_316.keep K_318 all0
    have sz_r_318 : h0.size ≤ r_318 := Nat.le_trans le_316 u0_318
    have g_r_318 : n0 ≤ r_318 := Nat.le_trans Z0 sz_r_318
    have Sf_r_318 := Safe.keep K_318 sf0 C_316.1 (Safe.new u0_318)
    refine Go.step st_318 ?_
    show Go p e below _ (T_318.setTop (mkF m 298 #[s0, s1, s2, s3, s4, s5, s6, s7, s8, vR a1, vI 3, .val .null, s12] [(.ref r_318), (.ref b316), (.ref b316)]))
    have f319 : Exa Z T_318.heap b316 "java/lang/String" := (A_316.keep K_318)
    have f320 : Fld Z T_318.heap b316 "java/lang/String" "value" "[B" .null := (F_316_33.keep K_318 nin0)
    have f321 : Fld Z T_318.heap b316 "java/lang/String" "coder" "B" (.int (0 : Int32)) := (F_316_31.keep K_318 nin0)
    have hp322 : ∀ c ∈ ([c0, c1, c2] : List Int32), ¬ c < 0 ∧ ¬ (255 : Int32) < c := (latc l_c0 (latc l_c1 (latc l_c2 lat0)))
    obtain ⟨v_323, T_323, L_323, X_323, hQ_323, st_323⟩ := goC X_318 hx hZ (y := Y_5) hown rfl (wd_8 hw) (wd_9 hw) (wd_10 hw) (by decide) (StrChars.Road.backV (W := 1) hZ (sw_words hw) (kI := 4) (wd_2 hw) (cs := ([c0, c1, c2] : List Int32)) (bs := ([c0, c1, c2] : List Int32).map (fun c => c.toInt8.toInt32)) (n := 3) g_b316 (Nat.le_trans Z0 KP_318.1) f319 f320 f321 u1_318 (S_cs.ext O_318.2) n_cs rfl rfl (by decide) (by decide) hp322 rfl (by decide) (by decide)) rfl (g := (mkF m 298 #[s0, s1, s2, s3, s4, s5, s6, s7, s8, vR a1, vI 3, .val .null, s12] [(.ref r_318), (.ref b316), (.ref b316)])) rfl (by rw [hml]; rfl) (a := b316) (argsL := [(.ref r_318)]) (rest := [(.ref b316)]) rfl (lenOf pd_5 rfl) rfl (by show 2 * 0 + _ ≤ _; exact Nat.le_of_eq rfl) (hb hby at_298) (by (try dsimp only); omega) (by (try dsimp only); omega)
    obtain ⟨rfl, Nq_323, K_323, Ex_323, Fc_323, t_323, kb_323, -, gt_323, -, Fv_323, Av_323⟩ := hQ_323
    have N_323 := Fr.app N_318 Nq_323
    have C_323 := CHr.keep K_323 (sfS (CHr.safe C_318 A_316.lt Sf_b316) sf0) C_318.1
    have CR_323 := CHr.trans CR_318 C_323
    have le_323 : T_318.heap.size ≤ T_323.heap.size := K_323.1
    have KP_323 := KP_318.trans K_323 (allS (Or.inr sz_b316) all0)
    have O_323 := O_318.keep K_323 (allS g_b316 all0)
    have Sx_323 : Str Z (T_323.heap).size (T_323.heap) b316 ([c0, c1, c2] : List Int32) := ⟨t_323, kb_323, Ex_323.lt, Av_323.lt, Ex_323, Fv_323, Fc_323, Av_323, hp322, Nat.le_of_ble_eq_true rfl⟩
    refine Go.step st_323 ?_
    show Go p e below _ (T_323.setTop (mkF m 301 #[s0, s1, s2, s3, s4, s5, s6, s7, s8, vR a1, vI 3, .val .null, s12] [(.ref b316)]))
    refine Go.step (fun _ k => XS.astore X_323.here hx rfl (hb hby at_301) rfl rfl (l' := #[s0, s1, s2, s3, s4, s5, s6, s7, s8, vR a1, vI 3, vR b316, s12]) rfl k) ?_
    show Go p e below _ (T_323.setTop (mkF m 303 #[s0, s1, s2, s3, s4, s5, s6, s7, s8, vR a1, vI 3, vR b316, s12] []))
    exact tg_tailS l Z a0 hw zc va kv ea eb wa wb ((s0)) ((s1)) ((s2)) ((s3)) ((s4)) ((s5)) ((s6)) ((s7)) ((s8)) ((vR a1)) ((vI 3)) ((s12)) (b316) (([c0, c1, c2] : List Int32)) T_323.heap n0 (Nat.le_trans Z0 KP_323.1) Sx_323 hs12 hSt O_323 hx hby hml hret hlk hZ hown X_323 rfl N_323 hS0 (Nat.le_trans hk0 (Nat.le_trans le_316 (Nat.le_trans le_318 le_323))) C_323.1 CR_323 hh0 (by (try dsimp only); omega) (by (try dsimp only); omega)
  · skip
    show Go p e below _ (T.setTop (mkF m 287 #[s0, s1, s2, s3, s4, s5, s6, s7, s8, vR a1, vI 4, .val .null, s12] []))
    obtain ⟨T_324, h_324, X_324, e_324, E_324, A_324, D_324, Un_324, st_324⟩ := newO X0 hx hZ hown (wd_1 hw) (wd_2 hw) (wd_3 hw) e0 (g := (mkF m 287 #[s0, s1, s2, s3, s4, s5, s6, s7, s8, vR a1, vI 4, .val .null, s12] [])) rfl (hb hby at_287) (by (try dsimp only); omega) (by (try dsimp only); omega)
    obtain ⟨b324, q_324⟩ : ∃ z, z = h0.size := ⟨_, rfl⟩
    rw [← q_324] at A_324 D_324 Un_324 st_324
    refine Go.step st_324 ?_
    have C_324 := CHr.ext E_324 CV0
    have CR_324 := CHr.trans CR0 C_324
    have le_324 : h0.size ≤ h_324.size := E_324.1
    have KP_324 := KP0.ext E_324
    have O_324 := hO.ext E_324
    have ge_324 : h0.size ≤ b324 := Nat.le_of_eq q_324.symm
    have sz_b324 : h0.size ≤ b324 := Nat.le_trans (Nat.le_refl _) ge_324
    have g_b324 : n0 ≤ b324 := Nat.le_trans Z0 sz_b324
    have F_324_31 : Fld Z h_324 b324 "java/lang/String" "coder" "B" (.int (0 : Int32)) := D_324 (Or.inr (wd_31 hw)) (ty := .byte) pf_1
    have F_324_33 : Fld Z h_324 b324 "java/lang/String" "value" "[B" .null := D_324 (Or.inr (wd_33 hw)) (ty := (.array .byte)) pf_0
    have Sf_b324 := Safe.ext E_324 CV0 (Safe.new ge_324)
    show Go p e below _ (T_324.setTop (mkF m 290 #[s0, s1, s2, s3, s4, s5, s6, s7, s8, vR a1, vI 4, .val .null, s12] [(.ref b324)]))
    refine Go.step (fun _ k => XS.dup X_324.here hx rfl (hb hby at_290) rfl rfl k) ?_
    refine Go.step (fun _ k => XS.aload X_324.here hx rfl (hb hby at_291) rfl rfl k) ?_
    refine Go.step (fun _ k => XS.iload X_324.here hx rfl (hb hby at_293) rfl  k) ?_
    show Go p e below _ (T_324.setTop (mkF m 295 #[s0, s1, s2, s3, s4, s5, s6, s7, s8, vR a1, vI 4, .val .null, s12] [(.int (4 : Int32)), (.ref a1), (.ref b324), (.ref b324)]))
    have f325 : Arv Z h_324 a1 k1 .char (8 : Int32) [(.int c0), (.int c1), (.int c2), (.int c3), (.int c4), (.int c5), (.int c6), (.int c7)] (.int (0 : Int32)) := (A_a1.ext E_324)
    obtain ⟨v_326, T_326, L_326, X_326, hQ_326, st_326⟩ := goS X_324 hx hZ (y := Y_4) hown (wd_4 hw) (wd_5 hw) (wd_6 hw) (wd_7 hw) (by decide) (backOf (W := 2) (rm_copy4 l Z a0 hw zc va kv ea eb wa wb (a1) (k1) (c0) (c1) (c2) (c3) (c4) (c5) (c6) (c7) h_324 n0 (Nat.le_trans Z0 KP_324.1) f325 l_c0 l_c1 l_c2 l_c3 l_c4 l_c5 l_c6 l_c7 hSt O_324) hZ (wd_7 hw) (wd_6 hw) (by decide) (by decide)) e_324 (g := (mkF m 295 #[s0, s1, s2, s3, s4, s5, s6, s7, s8, vR a1, vI 4, .val .null, s12] [(.int (4 : Int32)), (.ref a1), (.ref b324), (.ref b324)])) rfl (by rw [hml]; rfl) (argsL := [(.ref a1), (.int (4 : Int32))]) (rest := [(.ref b324), (.ref b324)]) rfl (lenOf pd_4 rfl) rfl (by show 2 * 0 + _ ≤ _; exact Nat.le_of_eq rfl) (hb hby at_295) (by (try dsimp only); omega) (by (try dsimp only); omega)
    obtain ⟨r_326, kr_326, rfl, Nq_326, K_326, u0_326, u1_326⟩ := hQ_326
    have N_326 := Fr.app N0 Nq_326
    have C_326 := CHr.keep K_326 sf0 C_324.1
    have CR_326 := CHr.trans CR_324 C_326
    have le_326 : h_324.size ≤ T_326.heap.size := K_326.1
    have KP_326 := KP_324.trans K_326 all0
    have O_326 := O_324.keep K_326 all0
    have sz_r_326 : h0.size ≤ r_326 := Nat.le_trans le_324 u0_326
    have g_r_326 : n0 ≤ r_326 := Nat.le_trans Z0 sz_r_326
    have Sf_r_326 := Safe.keep K_326 sf0 C_324.1 (Safe.new u0_326)
    refine Go.step st_326 ?_
    show Go p e below _ (T_326.setTop (mkF m 298 #[s0, s1, s2, s3, s4, s5, s6, s7, s8, vR a1, vI 4, .val .null, s12] [(.ref r_326), (.ref b324), (.ref b324)]))
    have f327 : Exa Z T_326.heap b324 "java/lang/String" := (A_324.keep K_326)
    have f328 : Fld Z T_326.heap b324 "java/lang/String" "value" "[B" .null := (F_324_33.keep K_326 nin0)
    have f329 : Fld Z T_326.heap b324 "java/lang/String" "coder" "B" (.int (0 : Int32)) := (F_324_31.keep K_326 nin0)
    have hp330 : ∀ c ∈ ([c0, c1, c2, c3] : List Int32), ¬ c < 0 ∧ ¬ (255 : Int32) < c := (latc l_c0 (latc l_c1 (latc l_c2 (latc l_c3 lat0))))
    obtain ⟨v_331, T_331, L_331, X_331, hQ_331, st_331⟩ := goC X_326 hx hZ (y := Y_5) hown rfl (wd_8 hw) (wd_9 hw) (wd_10 hw) (by decide) (StrChars.Road.backV (W := 1) hZ (sw_words hw) (kI := 4) (wd_2 hw) (cs := ([c0, c1, c2, c3] : List Int32)) (bs := ([c0, c1, c2, c3] : List Int32).map (fun c => c.toInt8.toInt32)) (n := 4) g_b324 (Nat.le_trans Z0 KP_326.1) f327 f328 f329 u1_326 (S_cs.ext O_326.2) n_cs rfl rfl (by decide) (by decide) hp330 rfl (by decide) (by decide)) rfl (g := (mkF m 298 #[s0, s1, s2, s3, s4, s5, s6, s7, s8, vR a1, vI 4, .val .null, s12] [(.ref r_326), (.ref b324), (.ref b324)])) rfl (by rw [hml]; rfl) (a := b324) (argsL := [(.ref r_326)]) (rest := [(.ref b324)]) rfl (lenOf pd_5 rfl) rfl (by show 2 * 0 + _ ≤ _; exact Nat.le_of_eq rfl) (hb hby at_298) (by (try dsimp only); omega) (by (try dsimp only); omega)
    obtain ⟨rfl, Nq_331, K_331, Ex_331, Fc_331, t_331, kb_331, -, gt_331, -, Fv_331, Av_331⟩ := hQ_331
    have N_331 := Fr.app N_326 Nq_331
    have C_331 := CHr.keep K_331 (sfS (CHr.safe C_326 A_324.lt Sf_b324) sf0) C_326.1
    have CR_331 := CHr.trans CR_326 C_331
    have le_331 : T_326.heap.size ≤ T_331.heap.size := K_331.1
    have KP_331 := KP_326.trans K_331 (allS (Or.inr sz_b324) all0)
    have O_331 := O_326.keep K_331 (allS g_b324 all0)
    have Sx_331 : Str Z (T_331.heap).size (T_331.heap) b324 ([c0, c1, c2, c3] : List Int32) := ⟨t_331, kb_331, Ex_331.lt, Av_331.lt, Ex_331, Fv_331, Fc_331, Av_331, hp330, Nat.le_of_ble_eq_true rfl⟩
    refine Go.step st_331 ?_
    show Go p e below _ (T_331.setTop (mkF m 301 #[s0, s1, s2, s3, s4, s5, s6, s7, s8, vR a1, vI 4, .val .null, s12] [(.ref b324)]))
    refine Go.step (fun _ k => XS.astore X_331.here hx rfl (hb hby at_301) rfl rfl (l' := #[s0, s1, s2, s3, s4, s5, s6, s7, s8, vR a1, vI 4, vR b324, s12]) rfl k) ?_
    show Go p e below _ (T_331.setTop (mkF m 303 #[s0, s1, s2, s3, s4, s5, s6, s7, s8, vR a1, vI 4, vR b324, s12] []))
    exact tg_tailS l Z a0 hw zc va kv ea eb wa wb ((s0)) ((s1)) ((s2)) ((s3)) ((s4)) ((s5)) ((s6)) ((s7)) ((s8)) ((vR a1)) ((vI 4)) ((s12)) (b324) (([c0, c1, c2, c3] : List Int32)) T_331.heap n0 (Nat.le_trans Z0 KP_331.1) Sx_331 hs12 hSt O_331 hx hby hml hret hlk hZ hown X_331 rfl N_331 hS0 (Nat.le_trans hk0 (Nat.le_trans le_324 (Nat.le_trans le_326 le_331))) C_331.1 CR_331 hh0 (by (try dsimp only); omega) (by (try dsimp only); omega)
  · skip
    show Go p e below _ (T.setTop (mkF m 287 #[s0, s1, s2, s3, s4, s5, s6, s7, s8, vR a1, vI 5, .val .null, s12] []))
    obtain ⟨T_332, h_332, X_332, e_332, E_332, A_332, D_332, Un_332, st_332⟩ := newO X0 hx hZ hown (wd_1 hw) (wd_2 hw) (wd_3 hw) e0 (g := (mkF m 287 #[s0, s1, s2, s3, s4, s5, s6, s7, s8, vR a1, vI 5, .val .null, s12] [])) rfl (hb hby at_287) (by (try dsimp only); omega) (by (try dsimp only); omega)
    obtain ⟨b332, q_332⟩ : ∃ z, z = h0.size := ⟨_, rfl⟩
    rw [← q_332] at A_332 D_332 Un_332 st_332
    refine Go.step st_332 ?_
    have C_332 := CHr.ext E_332 CV0
    have CR_332 := CHr.trans CR0 C_332
    have le_332 : h0.size ≤ h_332.size := E_332.1
    have KP_332 := KP0.ext E_332
    have O_332 := hO.ext E_332
    have ge_332 : h0.size ≤ b332 := Nat.le_of_eq q_332.symm
    have sz_b332 : h0.size ≤ b332 := Nat.le_trans (Nat.le_refl _) ge_332
    have g_b332 : n0 ≤ b332 := Nat.le_trans Z0 sz_b332
    have F_332_31 : Fld Z h_332 b332 "java/lang/String" "coder" "B" (.int (0 : Int32)) := D_332 (Or.inr (wd_31 hw)) (ty := .byte) pf_1
    have F_332_33 : Fld Z h_332 b332 "java/lang/String" "value" "[B" .null := D_332 (Or.inr (wd_33 hw)) (ty := (.array .byte)) pf_0
    have Sf_b332 := Safe.ext E_332 CV0 (Safe.new ge_332)
    show Go p e below _ (T_332.setTop (mkF m 290 #[s0, s1, s2, s3, s4, s5, s6, s7, s8, vR a1, vI 5, .val .null, s12] [(.ref b332)]))
    refine Go.step (fun _ k => XS.dup X_332.here hx rfl (hb hby at_290) rfl rfl k) ?_
    refine Go.step (fun _ k => XS.aload X_332.here hx rfl (hb hby at_291) rfl rfl k) ?_
    refine Go.step (fun _ k => XS.iload X_332.here hx rfl (hb hby at_293) rfl  k) ?_
    show Go p e below _ (T_332.setTop (mkF m 295 #[s0, s1, s2, s3, s4, s5, s6, s7, s8, vR a1, vI 5, .val .null, s12] [(.int (5 : Int32)), (.ref a1), (.ref b332), (.ref b332)]))
    have f333 : Arv Z h_332 a1 k1 .char (8 : Int32) [(.int c0), (.int c1), (.int c2), (.int c3), (.int c4), (.int c5), (.int c6), (.int c7)] (.int (0 : Int32)) := (A_a1.ext E_332)
    obtain ⟨v_334, T_334, L_334, X_334, hQ_334, st_334⟩ := goS X_332 hx hZ (y := Y_4) hown (wd_4 hw) (wd_5 hw) (wd_6 hw) (wd_7 hw) (by decide) (backOf (W := 2) (rm_copy5 l Z a0 hw zc va kv ea eb wa wb (a1) (k1) (c0) (c1) (c2) (c3) (c4) (c5) (c6) (c7) h_332 n0 (Nat.le_trans Z0 KP_332.1) f333 l_c0 l_c1 l_c2 l_c3 l_c4 l_c5 l_c6 l_c7 hSt O_332) hZ (wd_7 hw) (wd_6 hw) (by decide) (by decide)) e_332 (g := (mkF m 295 #[s0, s1, s2, s3, s4, s5, s6, s7, s8, vR a1, vI 5, .val .null, s12] [(.int (5 : Int32)), (.ref a1), (.ref b332), (.ref b332)])) rfl (by rw [hml]; rfl) (argsL := [(.ref a1), (.int (5 : Int32))]) (rest := [(.ref b332), (.ref b332)]) rfl (lenOf pd_4 rfl) rfl (by show 2 * 0 + _ ≤ _; exact Nat.le_of_eq rfl) (hb hby at_295) (by (try dsimp only); omega) (by (try dsimp only); omega)
    obtain ⟨r_334, kr_334, rfl, Nq_334, K_334, u0_334, u1_334⟩ := hQ_334
    have N_334 := Fr.app N0 Nq_334
    have C_334 := CHr.keep K_334 sf0 C_332.1
    have CR_334 := CHr.trans CR_332 C_334
    have le_334 : h_332.size ≤ T_334.heap.size := K_334.1
    have KP_334 := KP_332.trans K_334 all0
    have O_334 := O_332.keep K_334 all0
    have sz_r_334 : h0.size ≤ r_334 := Nat.le_trans le_332 u0_334
    have g_r_334 : n0 ≤ r_334 := Nat.le_trans Z0 sz_r_334
    have Sf_r_334 := Safe.keep K_334 sf0 C_332.1 (Safe.new u0_334)
    refine Go.step st_334 ?_
    show Go p e below _ (T_334.setTop (mkF m 298 #[s0, s1, s2, s3, s4, s5, s6, s7, s8, vR a1, vI 5, .val .null, s12] [(.ref r_334), (.ref b332), (.ref b332)]))
    have f335 : Exa Z T_334.heap b332 "java/lang/String" := (A_332.keep K_334)
    have f336 : Fld Z T_334.heap b332 "java/lang/String" "value" "[B" .null := (F_332_33.keep K_334 nin0)
    have f337 : Fld Z T_334.heap b332 "java/lang/String" "coder" "B" (.int (0 : Int32)) := (F_332_31.keep K_334 nin0)
    have hp338 : ∀ c ∈ ([c0, c1, c2, c3, c4] : List Int32), ¬ c < 0 ∧ ¬ (255 : Int32) < c := (latc l_c0 (latc l_c1 (latc l_c2 (latc l_c3 (latc l_c4 lat0)))))
    obtain ⟨v_339, T_339, L_339, X_339, hQ_339, st_339⟩ := goC X_334 hx hZ (y := Y_5) hown rfl (wd_8 hw) (wd_9 hw) (wd_10 hw) (by decide) (StrChars.Road.backV (W := 1) hZ (sw_words hw) (kI := 4) (wd_2 hw) (cs := ([c0, c1, c2, c3, c4] : List Int32)) (bs := ([c0, c1, c2, c3, c4] : List Int32).map (fun c => c.toInt8.toInt32)) (n := 5) g_b332 (Nat.le_trans Z0 KP_334.1) f335 f336 f337 u1_334 (S_cs.ext O_334.2) n_cs rfl rfl (by decide) (by decide) hp338 rfl (by decide) (by decide)) rfl (g := (mkF m 298 #[s0, s1, s2, s3, s4, s5, s6, s7, s8, vR a1, vI 5, .val .null, s12] [(.ref r_334), (.ref b332), (.ref b332)])) rfl (by rw [hml]; rfl) (a := b332) (argsL := [(.ref r_334)]) (rest := [(.ref b332)]) rfl (lenOf pd_5 rfl) rfl (by show 2 * 0 + _ ≤ _; exact Nat.le_of_eq rfl) (hb hby at_298) (by (try dsimp only); omega) (by (try dsimp only); omega)
    obtain ⟨rfl, Nq_339, K_339, Ex_339, Fc_339, t_339, kb_339, -, gt_339, -, Fv_339, Av_339⟩ := hQ_339
    have N_339 := Fr.app N_334 Nq_339
    have C_339 := CHr.keep K_339 (sfS (CHr.safe C_334 A_332.lt Sf_b332) sf0) C_334.1
    have CR_339 := CHr.trans CR_334 C_339
    have le_339 : T_334.heap.size ≤ T_339.heap.size := K_339.1
    have KP_339 := KP_334.trans K_339 (allS (Or.inr sz_b332) all0)
    have O_339 := O_334.keep K_339 (allS g_b332 all0)
    have Sx_339 : Str Z (T_339.heap).size (T_339.heap) b332 ([c0, c1, c2, c3, c4] : List Int32) := ⟨t_339, kb_339, Ex_339.lt, Av_339.lt, Ex_339, Fv_339, Fc_339, Av_339, hp338, Nat.le_of_ble_eq_true rfl⟩
    refine Go.step st_339 ?_
    show Go p e below _ (T_339.setTop (mkF m 301 #[s0, s1, s2, s3, s4, s5, s6, s7, s8, vR a1, vI 5, .val .null, s12] [(.ref b332)]))
    refine Go.step (fun _ k => XS.astore X_339.here hx rfl (hb hby at_301) rfl rfl (l' := #[s0, s1, s2, s3, s4, s5, s6, s7, s8, vR a1, vI 5, vR b332, s12]) rfl k) ?_
    show Go p e below _ (T_339.setTop (mkF m 303 #[s0, s1, s2, s3, s4, s5, s6, s7, s8, vR a1, vI 5, vR b332, s12] []))
    exact tg_tailS l Z a0 hw zc va kv ea eb wa wb ((s0)) ((s1)) ((s2)) ((s3)) ((s4)) ((s5)) ((s6)) ((s7)) ((s8)) ((vR a1)) ((vI 5)) ((s12)) (b332) (([c0, c1, c2, c3, c4] : List Int32)) T_339.heap n0 (Nat.le_trans Z0 KP_339.1) Sx_339 hs12 hSt O_339 hx hby hml hret hlk hZ hown X_339 rfl N_339 hS0 (Nat.le_trans hk0 (Nat.le_trans le_332 (Nat.le_trans le_334 le_339))) C_339.1 CR_339 hh0 (by (try dsimp only); omega) (by (try dsimp only); omega)
  · skip
    show Go p e below _ (T.setTop (mkF m 287 #[s0, s1, s2, s3, s4, s5, s6, s7, s8, vR a1, vI 6, .val .null, s12] []))
    obtain ⟨T_340, h_340, X_340, e_340, E_340, A_340, D_340, Un_340, st_340⟩ := newO X0 hx hZ hown (wd_1 hw) (wd_2 hw) (wd_3 hw) e0 (g := (mkF m 287 #[s0, s1, s2, s3, s4, s5, s6, s7, s8, vR a1, vI 6, .val .null, s12] [])) rfl (hb hby at_287) (by (try dsimp only); omega) (by (try dsimp only); omega)
    obtain ⟨b340, q_340⟩ : ∃ z, z = h0.size := ⟨_, rfl⟩
    rw [← q_340] at A_340 D_340 Un_340 st_340
    refine Go.step st_340 ?_
    have C_340 := CHr.ext E_340 CV0
    have CR_340 := CHr.trans CR0 C_340
    have le_340 : h0.size ≤ h_340.size := E_340.1
    have KP_340 := KP0.ext E_340
    have O_340 := hO.ext E_340
    have ge_340 : h0.size ≤ b340 := Nat.le_of_eq q_340.symm
    have sz_b340 : h0.size ≤ b340 := Nat.le_trans (Nat.le_refl _) ge_340
    have g_b340 : n0 ≤ b340 := Nat.le_trans Z0 sz_b340
    have F_340_31 : Fld Z h_340 b340 "java/lang/String" "coder" "B" (.int (0 : Int32)) := D_340 (Or.inr (wd_31 hw)) (ty := .byte) pf_1
    have F_340_33 : Fld Z h_340 b340 "java/lang/String" "value" "[B" .null := D_340 (Or.inr (wd_33 hw)) (ty := (.array .byte)) pf_0
    have Sf_b340 := Safe.ext E_340 CV0 (Safe.new ge_340)
    show Go p e below _ (T_340.setTop (mkF m 290 #[s0, s1, s2, s3, s4, s5, s6, s7, s8, vR a1, vI 6, .val .null, s12] [(.ref b340)]))
    refine Go.step (fun _ k => XS.dup X_340.here hx rfl (hb hby at_290) rfl rfl k) ?_
    refine Go.step (fun _ k => XS.aload X_340.here hx rfl (hb hby at_291) rfl rfl k) ?_
    refine Go.step (fun _ k => XS.iload X_340.here hx rfl (hb hby at_293) rfl  k) ?_
    show Go p e below _ (T_340.setTop (mkF m 295 #[s0, s1, s2, s3, s4, s5, s6, s7, s8, vR a1, vI 6, .val .null, s12] [(.int (6 : Int32)), (.ref a1), (.ref b340), (.ref b340)]))
    have f341 : Arv Z h_340 a1 k1 .char (8 : Int32) [(.int c0), (.int c1), (.int c2), (.int c3), (.int c4), (.int c5), (.int c6), (.int c7)] (.int (0 : Int32)) := (A_a1.ext E_340)
    obtain ⟨v_342, T_342, L_342, X_342, hQ_342, st_342⟩ := goS X_340 hx hZ (y := Y_4) hown (wd_4 hw) (wd_5 hw) (wd_6 hw) (wd_7 hw) (by decide) (backOf (W := 2) (rm_copy6 l Z a0 hw zc va kv ea eb wa wb (a1) (k1) (c0) (c1) (c2) (c3) (c4) (c5) (c6) (c7) h_340 n0 (Nat.le_trans Z0 KP_340.1) f341 l_c0 l_c1 l_c2 l_c3 l_c4 l_c5 l_c6 l_c7 hSt O_340) hZ (wd_7 hw) (wd_6 hw) (by decide) (by decide)) e_340 (g := (mkF m 295 #[s0, s1, s2, s3, s4, s5, s6, s7, s8, vR a1, vI 6, .val .null, s12] [(.int (6 : Int32)), (.ref a1), (.ref b340), (.ref b340)])) rfl (by rw [hml]; rfl) (argsL := [(.ref a1), (.int (6 : Int32))]) (rest := [(.ref b340), (.ref b340)]) rfl (lenOf pd_4 rfl) rfl (by show 2 * 0 + _ ≤ _; exact Nat.le_of_eq rfl) (hb hby at_295) (by (try dsimp only); omega) (by (try dsimp only); omega)
    obtain ⟨r_342, kr_342, rfl, Nq_342, K_342, u0_342, u1_342⟩ := hQ_342
    have N_342 := Fr.app N0 Nq_342
    have C_342 := CHr.keep K_342 sf0 C_340.1
    have CR_342 := CHr.trans CR_340 C_342
    have le_342 : h_340.size ≤ T_342.heap.size := K_342.1
    have KP_342 := KP_340.trans K_342 all0
    have O_342 := O_340.keep K_342 all0
    have sz_r_342 : h0.size ≤ r_342 := Nat.le_trans le_340 u0_342
    have g_r_342 : n0 ≤ r_342 := Nat.le_trans Z0 sz_r_342
    have Sf_r_342 := Safe.keep K_342 sf0 C_340.1 (Safe.new u0_342)
    refine Go.step st_342 ?_
    show Go p e below _ (T_342.setTop (mkF m 298 #[s0, s1, s2, s3, s4, s5, s6, s7, s8, vR a1, vI 6, .val .null, s12] [(.ref r_342), (.ref b340), (.ref b340)]))
    have f343 : Exa Z T_342.heap b340 "java/lang/String" := (A_340.keep K_342)
    have f344 : Fld Z T_342.heap b340 "java/lang/String" "value" "[B" .null := (F_340_33.keep K_342 nin0)
    have f345 : Fld Z T_342.heap b340 "java/lang/String" "coder" "B" (.int (0 : Int32)) := (F_340_31.keep K_342 nin0)
    have hp346 : ∀ c ∈ ([c0, c1, c2, c3, c4, c5] : List Int32), ¬ c < 0 ∧ ¬ (255 : Int32) < c := (latc l_c0 (latc l_c1 (latc l_c2 (latc l_c3 (latc l_c4 (latc l_c5 lat0))))))
    obtain ⟨v_347, T_347, L_347, X_347, hQ_347, st_347⟩ := goC X_342 hx hZ (y := Y_5) hown rfl (wd_8 hw) (wd_9 hw) (wd_10 hw) (by decide) (StrChars.Road.backV (W := 1) hZ (sw_words hw) (kI := 4) (wd_2 hw) (cs := ([c0, c1, c2, c3, c4, c5] : List Int32)) (bs := ([c0, c1, c2, c3, c4, c5] : List Int32).map (fun c => c.toInt8.toInt32)) (n := 6) g_b340 (Nat.le_trans Z0 KP_342.1) f343 f344 f345 u1_342 (S_cs.ext O_342.2) n_cs rfl rfl (by decide) (by decide) hp346 rfl (by decide) (by decide)) rfl (g := (mkF m 298 #[s0, s1, s2, s3, s4, s5, s6, s7, s8, vR a1, vI 6, .val .null, s12] [(.ref r_342), (.ref b340), (.ref b340)])) rfl (by rw [hml]; rfl) (a := b340) (argsL := [(.ref r_342)]) (rest := [(.ref b340)]) rfl (lenOf pd_5 rfl) rfl (by show 2 * 0 + _ ≤ _; exact Nat.le_of_eq rfl) (hb hby at_298) (by (try dsimp only); omega) (by (try dsimp only); omega)
    obtain ⟨rfl, Nq_347, K_347, Ex_347, Fc_347, t_347, kb_347, -, gt_347, -, Fv_347, Av_347⟩ := hQ_347
    have N_347 := Fr.app N_342 Nq_347
    have C_347 := CHr.keep K_347 (sfS (CHr.safe C_342 A_340.lt Sf_b340) sf0) C_342.1
    have CR_347 := CHr.trans CR_342 C_347
    have le_347 : T_342.heap.size ≤ T_347.heap.size := K_347.1
    have KP_347 := KP_342.trans K_347 (allS (Or.inr sz_b340) all0)
    have O_347 := O_342.keep K_347 (allS g_b340 all0)
    have Sx_347 : Str Z (T_347.heap).size (T_347.heap) b340 ([c0, c1, c2, c3, c4, c5] : List Int32) := ⟨t_347, kb_347, Ex_347.lt, Av_347.lt, Ex_347, Fv_347, Fc_347, Av_347, hp346, Nat.le_of_ble_eq_true rfl⟩
    refine Go.step st_347 ?_
    show Go p e below _ (T_347.setTop (mkF m 301 #[s0, s1, s2, s3, s4, s5, s6, s7, s8, vR a1, vI 6, .val .null, s12] [(.ref b340)]))
    refine Go.step (fun _ k => XS.astore X_347.here hx rfl (hb hby at_301) rfl rfl (l' := #[s0, s1, s2, s3, s4, s5, s6, s7, s8, vR a1, vI 6, vR b340, s12]) rfl k) ?_
    show Go p e below _ (T_347.setTop (mkF m 303 #[s0, s1, s2, s3, s4, s5, s6, s7, s8, vR a1, vI 6, vR b340, s12] []))
    exact tg_tailS l Z a0 hw zc va kv ea eb wa wb ((s0)) ((s1)) ((s2)) ((s3)) ((s4)) ((s5)) ((s6)) ((s7)) ((s8)) ((vR a1)) ((vI 6)) ((s12)) (b340) (([c0, c1, c2, c3, c4, c5] : List Int32)) T_347.heap n0 (Nat.le_trans Z0 KP_347.1) Sx_347 hs12 hSt O_347 hx hby hml hret hlk hZ hown X_347 rfl N_347 hS0 (Nat.le_trans hk0 (Nat.le_trans le_340 (Nat.le_trans le_342 le_347))) C_347.1 CR_347 hh0 (by (try dsimp only); omega) (by (try dsimp only); omega)
  · skip
    show Go p e below _ (T.setTop (mkF m 287 #[s0, s1, s2, s3, s4, s5, s6, s7, s8, vR a1, vI 7, .val .null, s12] []))
    obtain ⟨T_348, h_348, X_348, e_348, E_348, A_348, D_348, Un_348, st_348⟩ := newO X0 hx hZ hown (wd_1 hw) (wd_2 hw) (wd_3 hw) e0 (g := (mkF m 287 #[s0, s1, s2, s3, s4, s5, s6, s7, s8, vR a1, vI 7, .val .null, s12] [])) rfl (hb hby at_287) (by (try dsimp only); omega) (by (try dsimp only); omega)
    obtain ⟨b348, q_348⟩ : ∃ z, z = h0.size := ⟨_, rfl⟩
    rw [← q_348] at A_348 D_348 Un_348 st_348
    refine Go.step st_348 ?_
    have C_348 := CHr.ext E_348 CV0
    have CR_348 := CHr.trans CR0 C_348
    have le_348 : h0.size ≤ h_348.size := E_348.1
    have KP_348 := KP0.ext E_348
    have O_348 := hO.ext E_348
    have ge_348 : h0.size ≤ b348 := Nat.le_of_eq q_348.symm
    have sz_b348 : h0.size ≤ b348 := Nat.le_trans (Nat.le_refl _) ge_348
    have g_b348 : n0 ≤ b348 := Nat.le_trans Z0 sz_b348
    have F_348_31 : Fld Z h_348 b348 "java/lang/String" "coder" "B" (.int (0 : Int32)) := D_348 (Or.inr (wd_31 hw)) (ty := .byte) pf_1
    have F_348_33 : Fld Z h_348 b348 "java/lang/String" "value" "[B" .null := D_348 (Or.inr (wd_33 hw)) (ty := (.array .byte)) pf_0
    have Sf_b348 := Safe.ext E_348 CV0 (Safe.new ge_348)
    show Go p e below _ (T_348.setTop (mkF m 290 #[s0, s1, s2, s3, s4, s5, s6, s7, s8, vR a1, vI 7, .val .null, s12] [(.ref b348)]))
    refine Go.step (fun _ k => XS.dup X_348.here hx rfl (hb hby at_290) rfl rfl k) ?_
    refine Go.step (fun _ k => XS.aload X_348.here hx rfl (hb hby at_291) rfl rfl k) ?_
    refine Go.step (fun _ k => XS.iload X_348.here hx rfl (hb hby at_293) rfl  k) ?_
    show Go p e below _ (T_348.setTop (mkF m 295 #[s0, s1, s2, s3, s4, s5, s6, s7, s8, vR a1, vI 7, .val .null, s12] [(.int (7 : Int32)), (.ref a1), (.ref b348), (.ref b348)]))
    have f349 : Arv Z h_348 a1 k1 .char (8 : Int32) [(.int c0), (.int c1), (.int c2), (.int c3), (.int c4), (.int c5), (.int c6), (.int c7)] (.int (0 : Int32)) := (A_a1.ext E_348)
    obtain ⟨v_350, T_350, L_350, X_350, hQ_350, st_350⟩ := goS X_348 hx hZ (y := Y_4) hown (wd_4 hw) (wd_5 hw) (wd_6 hw) (wd_7 hw) (by decide) (backOf (W := 2) (rm_copy7 l Z a0 hw zc va kv ea eb wa wb (a1) (k1) (c0) (c1) (c2) (c3) (c4) (c5) (c6) (c7) h_348 n0 (Nat.le_trans Z0 KP_348.1) f349 l_c0 l_c1 l_c2 l_c3 l_c4 l_c5 l_c6 l_c7 hSt O_348) hZ (wd_7 hw) (wd_6 hw) (by decide) (by decide)) e_348 (g := (mkF m 295 #[s0, s1, s2, s3, s4, s5, s6, s7, s8, vR a1, vI 7, .val .null, s12] [(.int (7 : Int32)), (.ref a1), (.ref b348), (.ref b348)])) rfl (by rw [hml]; rfl) (argsL := [(.ref a1), (.int (7 : Int32))]) (rest := [(.ref b348), (.ref b348)]) rfl (lenOf pd_4 rfl) rfl (by show 2 * 0 + _ ≤ _; exact Nat.le_of_eq rfl) (hb hby at_295) (by (try dsimp only); omega) (by (try dsimp only); omega)
    obtain ⟨r_350, kr_350, rfl, Nq_350, K_350, u0_350, u1_350⟩ := hQ_350
    have N_350 := Fr.app N0 Nq_350
    have C_350 := CHr.keep K_350 sf0 C_348.1
    have CR_350 := CHr.trans CR_348 C_350
    have le_350 : h_348.size ≤ T_350.heap.size := K_350.1
    have KP_350 := KP_348.trans K_350 all0
    have O_350 := O_348.keep K_350 all0
    have sz_r_350 : h0.size ≤ r_350 := Nat.le_trans le_348 u0_350
    have g_r_350 : n0 ≤ r_350 := Nat.le_trans Z0 sz_r_350
    have Sf_r_350 := Safe.keep K_350 sf0 C_348.1 (Safe.new u0_350)
    refine Go.step st_350 ?_
    show Go p e below _ (T_350.setTop (mkF m 298 #[s0, s1, s2, s3, s4, s5, s6, s7, s8, vR a1, vI 7, .val .null, s12] [(.ref r_350), (.ref b348), (.ref b348)]))
    have f351 : Exa Z T_350.heap b348 "java/lang/String" := (A_348.keep K_350)
    have f352 : Fld Z T_350.heap b348 "java/lang/String" "value" "[B" .null := (F_348_33.keep K_350 nin0)
    have f353 : Fld Z T_350.heap b348 "java/lang/String" "coder" "B" (.int (0 : Int32)) := (F_348_31.keep K_350 nin0)
    have hp354 : ∀ c ∈ ([c0, c1, c2, c3, c4, c5, c6] : List Int32), ¬ c < 0 ∧ ¬ (255 : Int32) < c := (latc l_c0 (latc l_c1 (latc l_c2 (latc l_c3 (latc l_c4 (latc l_c5 (latc l_c6 lat0)))))))
    obtain ⟨v_355, T_355, L_355, X_355, hQ_355, st_355⟩ := goC X_350 hx hZ (y := Y_5) hown rfl (wd_8 hw) (wd_9 hw) (wd_10 hw) (by decide) (StrChars.Road.backV (W := 1) hZ (sw_words hw) (kI := 4) (wd_2 hw) (cs := ([c0, c1, c2, c3, c4, c5, c6] : List Int32)) (bs := ([c0, c1, c2, c3, c4, c5, c6] : List Int32).map (fun c => c.toInt8.toInt32)) (n := 7) g_b348 (Nat.le_trans Z0 KP_350.1) f351 f352 f353 u1_350 (S_cs.ext O_350.2) n_cs rfl rfl (by decide) (by decide) hp354 rfl (by decide) (by decide)) rfl (g := (mkF m 298 #[s0, s1, s2, s3, s4, s5, s6, s7, s8, vR a1, vI 7, .val .null, s12] [(.ref r_350), (.ref b348), (.ref b348)])) rfl (by rw [hml]; rfl) (a := b348) (argsL := [(.ref r_350)]) (rest := [(.ref b348)]) rfl (lenOf pd_5 rfl) rfl (by show 2 * 0 + _ ≤ _; exact Nat.le_of_eq rfl) (hb hby at_298) (by (try dsimp only); omega) (by (try dsimp only); omega)
    obtain ⟨rfl, Nq_355, K_355, Ex_355, Fc_355, t_355, kb_355, -, gt_355, -, Fv_355, Av_355⟩ := hQ_355
    have N_355 := Fr.app N_350 Nq_355
    have C_355 := CHr.keep K_355 (sfS (CHr.safe C_350 A_348.lt Sf_b348) sf0) C_350.1
    have CR_355 := CHr.trans CR_350 C_355
    have le_355 : T_350.heap.size ≤ T_355.heap.size := K_355.1
    have KP_355 := KP_350.trans K_355 (allS (Or.inr sz_b348) all0)
    have O_355 := O_350.keep K_355 (allS g_b348 all0)
    have Sx_355 : Str Z (T_355.heap).size (T_355.heap) b348 ([c0, c1, c2, c3, c4, c5, c6] : List Int32) := ⟨t_355, kb_355, Ex_355.lt, Av_355.lt, Ex_355, Fv_355, Fc_355, Av_355, hp354, Nat.le_of_ble_eq_true rfl⟩
    refine Go.step st_355 ?_
    show Go p e below _ (T_355.setTop (mkF m 301 #[s0, s1, s2, s3, s4, s5, s6, s7, s8, vR a1, vI 7, .val .null, s12] [(.ref b348)]))
    refine Go.step (fun _ k => XS.astore X_355.here hx rfl (hb hby at_301) rfl rfl (l' := #[s0, s1, s2, s3, s4, s5, s6, s7, s8, vR a1, vI 7, vR b348, s12]) rfl k) ?_
    show Go p e below _ (T_355.setTop (mkF m 303 #[s0, s1, s2, s3, s4, s5, s6, s7, s8, vR a1, vI 7, vR b348, s12] []))
    exact tg_tailS l Z a0 hw zc va kv ea eb wa wb ((s0)) ((s1)) ((s2)) ((s3)) ((s4)) ((s5)) ((s6)) ((s7)) ((s8)) ((vR a1)) ((vI 7)) ((s12)) (b348) (([c0, c1, c2, c3, c4, c5, c6] : List Int32)) T_355.heap n0 (Nat.le_trans Z0 KP_355.1) Sx_355 hs12 hSt O_355 hx hby hml hret hlk hZ hown X_355 rfl N_355 hS0 (Nat.le_trans hk0 (Nat.le_trans le_348 (Nat.le_trans le_350 le_355))) C_355.1 CR_355 hh0 (by (try dsimp only); omega) (by (try dsimp only); omega)
  · skip
    show Go p e below _ (T.setTop (mkF m 287 #[s0, s1, s2, s3, s4, s5, s6, s7, s8, vR a1, vI 8, .val .null, s12] []))
    obtain ⟨T_356, h_356, X_356, e_356, E_356, A_356, D_356, Un_356, st_356⟩ := newO X0 hx hZ hown (wd_1 hw) (wd_2 hw) (wd_3 hw) e0 (g := (mkF m 287 #[s0, s1, s2, s3, s4, s5, s6, s7, s8, vR a1, vI 8, .val .null, s12] [])) rfl (hb hby at_287) (by (try dsimp only); omega) (by (try dsimp only); omega)
    obtain ⟨b356, q_356⟩ : ∃ z, z = h0.size := ⟨_, rfl⟩
    rw [← q_356] at A_356 D_356 Un_356 st_356
    refine Go.step st_356 ?_
    have C_356 := CHr.ext E_356 CV0
    have CR_356 := CHr.trans CR0 C_356
    have le_356 : h0.size ≤ h_356.size := E_356.1
    have KP_356 := KP0.ext E_356
    have O_356 := hO.ext E_356
    have ge_356 : h0.size ≤ b356 := Nat.le_of_eq q_356.symm
    have sz_b356 : h0.size ≤ b356 := Nat.le_trans (Nat.le_refl _) ge_356
    have g_b356 : n0 ≤ b356 := Nat.le_trans Z0 sz_b356
    have F_356_31 : Fld Z h_356 b356 "java/lang/String" "coder" "B" (.int (0 : Int32)) := D_356 (Or.inr (wd_31 hw)) (ty := .byte) pf_1
    have F_356_33 : Fld Z h_356 b356 "java/lang/String" "value" "[B" .null := D_356 (Or.inr (wd_33 hw)) (ty := (.array .byte)) pf_0
    have Sf_b356 := Safe.ext E_356 CV0 (Safe.new ge_356)
    show Go p e below _ (T_356.setTop (mkF m 290 #[s0, s1, s2, s3, s4, s5, s6, s7, s8, vR a1, vI 8, .val .null, s12] [(.ref b356)]))
    refine Go.step (fun _ k => XS.dup X_356.here hx rfl (hb hby at_290) rfl rfl k) ?_
    refine Go.step (fun _ k => XS.aload X_356.here hx rfl (hb hby at_291) rfl rfl k) ?_
    refine Go.step (fun _ k => XS.iload X_356.here hx rfl (hb hby at_293) rfl  k) ?_
    show Go p e below _ (T_356.setTop (mkF m 295 #[s0, s1, s2, s3, s4, s5, s6, s7, s8, vR a1, vI 8, .val .null, s12] [(.int (8 : Int32)), (.ref a1), (.ref b356), (.ref b356)]))
    have f357 : Arv Z h_356 a1 k1 .char (8 : Int32) [(.int c0), (.int c1), (.int c2), (.int c3), (.int c4), (.int c5), (.int c6), (.int c7)] (.int (0 : Int32)) := (A_a1.ext E_356)
    obtain ⟨v_358, T_358, L_358, X_358, hQ_358, st_358⟩ := goS X_356 hx hZ (y := Y_4) hown (wd_4 hw) (wd_5 hw) (wd_6 hw) (wd_7 hw) (by decide) (backOf (W := 2) (rm_copy8 l Z a0 hw zc va kv ea eb wa wb (a1) (k1) (c0) (c1) (c2) (c3) (c4) (c5) (c6) (c7) h_356 n0 (Nat.le_trans Z0 KP_356.1) f357 l_c0 l_c1 l_c2 l_c3 l_c4 l_c5 l_c6 l_c7 hSt O_356) hZ (wd_7 hw) (wd_6 hw) (by decide) (by decide)) e_356 (g := (mkF m 295 #[s0, s1, s2, s3, s4, s5, s6, s7, s8, vR a1, vI 8, .val .null, s12] [(.int (8 : Int32)), (.ref a1), (.ref b356), (.ref b356)])) rfl (by rw [hml]; rfl) (argsL := [(.ref a1), (.int (8 : Int32))]) (rest := [(.ref b356), (.ref b356)]) rfl (lenOf pd_4 rfl) rfl (by show 2 * 0 + _ ≤ _; exact Nat.le_of_eq rfl) (hb hby at_295) (by (try dsimp only); omega) (by (try dsimp only); omega)
    obtain ⟨r_358, kr_358, rfl, Nq_358, K_358, u0_358, u1_358⟩ := hQ_358
    have N_358 := Fr.app N0 Nq_358
    have C_358 := CHr.keep K_358 sf0 C_356.1
    have CR_358 := CHr.trans CR_356 C_358
    have le_358 : h_356.size ≤ T_358.heap.size := K_358.1
    have KP_358 := KP_356.trans K_358 all0
    have O_358 := O_356.keep K_358 all0
    have sz_r_358 : h0.size ≤ r_358 := Nat.le_trans le_356 u0_358
    have g_r_358 : n0 ≤ r_358 := Nat.le_trans Z0 sz_r_358
    have Sf_r_358 := Safe.keep K_358 sf0 C_356.1 (Safe.new u0_358)
    refine Go.step st_358 ?_
    show Go p e below _ (T_358.setTop (mkF m 298 #[s0, s1, s2, s3, s4, s5, s6, s7, s8, vR a1, vI 8, .val .null, s12] [(.ref r_358), (.ref b356), (.ref b356)]))
    have f359 : Exa Z T_358.heap b356 "java/lang/String" := (A_356.keep K_358)
    have f360 : Fld Z T_358.heap b356 "java/lang/String" "value" "[B" .null := (F_356_33.keep K_358 nin0)
    have f361 : Fld Z T_358.heap b356 "java/lang/String" "coder" "B" (.int (0 : Int32)) := (F_356_31.keep K_358 nin0)
    have hp362 : ∀ c ∈ ([c0, c1, c2, c3, c4, c5, c6, c7] : List Int32), ¬ c < 0 ∧ ¬ (255 : Int32) < c := (latc l_c0 (latc l_c1 (latc l_c2 (latc l_c3 (latc l_c4 (latc l_c5 (latc l_c6 (latc l_c7 lat0))))))))
    obtain ⟨v_363, T_363, L_363, X_363, hQ_363, st_363⟩ := goC X_358 hx hZ (y := Y_5) hown rfl (wd_8 hw) (wd_9 hw) (wd_10 hw) (by decide) (StrChars.Road.backV (W := 1) hZ (sw_words hw) (kI := 4) (wd_2 hw) (cs := ([c0, c1, c2, c3, c4, c5, c6, c7] : List Int32)) (bs := ([c0, c1, c2, c3, c4, c5, c6, c7] : List Int32).map (fun c => c.toInt8.toInt32)) (n := 8) g_b356 (Nat.le_trans Z0 KP_358.1) f359 f360 f361 u1_358 (S_cs.ext O_358.2) n_cs rfl rfl (by decide) (by decide) hp362 rfl (by decide) (by decide)) rfl (g := (mkF m 298 #[s0, s1, s2, s3, s4, s5, s6, s7, s8, vR a1, vI 8, .val .null, s12] [(.ref r_358), (.ref b356), (.ref b356)])) rfl (by rw [hml]; rfl) (a := b356) (argsL := [(.ref r_358)]) (rest := [(.ref b356)]) rfl (lenOf pd_5 rfl) rfl (by show 2 * 0 + _ ≤ _; exact Nat.le_of_eq rfl) (hb hby at_298) (by (try dsimp only); omega) (by (try dsimp only); omega)
    obtain ⟨rfl, Nq_363, K_363, Ex_363, Fc_363, t_363, kb_363, -, gt_363, -, Fv_363, Av_363⟩ := hQ_363
    have N_363 := Fr.app N_358 Nq_363
    have C_363 := CHr.keep K_363 (sfS (CHr.safe C_358 A_356.lt Sf_b356) sf0) C_358.1
    have CR_363 := CHr.trans CR_358 C_363
    have le_363 : T_358.heap.size ≤ T_363.heap.size := K_363.1
    have KP_363 := KP_358.trans K_363 (allS (Or.inr sz_b356) all0)
    have O_363 := O_358.keep K_363 (allS g_b356 all0)
    have Sx_363 : Str Z (T_363.heap).size (T_363.heap) b356 ([c0, c1, c2, c3, c4, c5, c6, c7] : List Int32) := ⟨t_363, kb_363, Ex_363.lt, Av_363.lt, Ex_363, Fv_363, Fc_363, Av_363, hp362, Nat.le_of_ble_eq_true rfl⟩
    refine Go.step st_363 ?_
    show Go p e below _ (T_363.setTop (mkF m 301 #[s0, s1, s2, s3, s4, s5, s6, s7, s8, vR a1, vI 8, .val .null, s12] [(.ref b356)]))
    refine Go.step (fun _ k => XS.astore X_363.here hx rfl (hb hby at_301) rfl rfl (l' := #[s0, s1, s2, s3, s4, s5, s6, s7, s8, vR a1, vI 8, vR b356, s12]) rfl k) ?_
    show Go p e below _ (T_363.setTop (mkF m 303 #[s0, s1, s2, s3, s4, s5, s6, s7, s8, vR a1, vI 8, vR b356, s12] []))
    exact tg_tailS l Z a0 hw zc va kv ea eb wa wb ((s0)) ((s1)) ((s2)) ((s3)) ((s4)) ((s5)) ((s6)) ((s7)) ((s8)) ((vR a1)) ((vI 8)) ((s12)) (b356) (([c0, c1, c2, c3, c4, c5, c6, c7] : List Int32)) T_363.heap n0 (Nat.le_trans Z0 KP_363.1) Sx_363 hs12 hSt O_363 hx hby hml hret hlk hZ hown X_363 rfl N_363 hS0 (Nat.le_trans hk0 (Nat.le_trans le_356 (Nat.le_trans le_358 le_363))) C_363.1 CR_363 hh0 (by (try dsimp only); omega) (by (try dsimp only); omega)
--@E
--@C edit
set_option maxRecDepth 65536 in
set_option maxHeartbeats 40000000 in
theorem sg_edit (l : Launch) (Z : State) (a0 : Array Value) (hw : ∀ d ∈ tables_1, d.before a0 Z = true) (zc : Int32) (va : Addr) (kv : ClassId) (ea : Addr) (eb : Addr) (wa : Addr) (wb : Addr) (s0 : Slot) (s1 : Slot) (s2 : Slot) (s4 : Slot) (s5 : Slot) (s11 : Slot) (p3 : Int32) (pt : Int32) (ed : Int32) (c1 : Int32) (a1 : Addr) (k1 : ClassId) (n1 : Int32) (vs : List Int32) (h0 : Heap) (n0 : Nat) (Z0 : n0 ≤ h0.size) (A_a1 : Arv Z h0 a1 k1 .char (8 : Int32) (vs.map Value.int) (.int (0 : Int32))) (g_a1 : n0 ≤ a1) (hv : (vs.length = 8 ∧ ∀ c ∈ vs, ¬ c < 0 ∧ ¬ (255 : Int32) < c)) (hn1 : (0 ≤ n1.toInt ∧ n1.toInt ≤ 7)) (l_c1 : (¬ c1 < 0 ∧ ¬ (255 : Int32) < c1)) (hSt : St Z zc va kv ea eb wa wb) (hO : Old Z n0 h0)
    {p : Program} {e : Env} {s : State} {m : MethodId} {args : Array Value} {below : List Frame} {meth : Method} {c : Code} {T : State} {locs : List Loc} {cells slots : Nat} {Qf : Outcome → State → Prop}
    (hx : p.tables.exec = Jvm.exec) (hby : c.code = code) (hml : c.maxLocals = maxLocals) (hZ : Z.Warmed39 s.vm) (hown : s.vm.findClass "com/example/patient_ledger/patientledger/EntryTypeFromWireNamePinLaw" = some m.cls) (X0 : Stand p l e room_1 s m args below meth c T locs cells slots) (e0 : T.heap = h0) (N0 : Fr n0 locs) (hc : cells + 0 ≤ room_1.cells) (hs : slots + 0 ≤ room_1.slots)
    (hgo : ∀ (T' : State) (L : List Loc) (sl : Slot) (n2 : Int32) (vs2 : List Int32), Stand p l e room_1 s m args below meth c T' L (cells + 0) (slots + 0) → (Fr n0 L ∧ Keep h0 T'.heap [a1] ∧ Arv Z T'.heap a1 k1 .char (8 : Int32) (vs2.map Value.int) (.int (0 : Int32)) ∧ (((vs2.length = 8 ∧ ∀ c ∈ vs2, ¬ c < 0 ∧ ¬ (255 : Int32) < c) ∧ 0 ≤ n2.toInt ∧ n2.toInt ≤ 8) ∧ (sl = .unset ∨ ∃ z, sl = .val (.int z)))) → Go p e below Qf (T'.setTop (mkF m 287 #[s0, s1, s2, .val (.int p3), s4, s5, .val (.int pt), .val (.int ed), .val (.int c1), .val (.ref a1), .val (.int n2), s11, sl] []))) :
    Go p e below Qf (T.setTop (mkF m 215 #[s0, s1, s2, .val (.int p3), s4, s5, .val (.int pt), .val (.int ed), .val (.int c1), .val (.ref a1), .val (.int n1), s11, .unset] [])) := by
  have KP0 := Keep.refl h0 [a1]
  have hSt_ := hSt
  obtain ⟨S_cs, n_cs, S_va, E_va, A_va, S_ea, F_ea, S_wa, S_eb, F_eb, S_wb⟩ := hSt_
  show Go p e below _ (T.setTop (mkF m 215 #[s0, s1, s2, vI p3, s4, s5, vI pt, vI ed, vI c1, vR a1, vI n1, s11, vU] []))
  refine Go.step (fun _ k => XS.iload X0.here hx rfl (hb hby at_215) rfl  k) ?_
  show Go p e below _ (T.setTop (mkF m 217 #[s0, s1, s2, vI p3, s4, s5, vI pt, vI ed, vI c1, vR a1, vI n1, s11, vU] [(.int pt)]))
  by_cases u0 : pt = (0 : Int32)
  · skip
    refine Go.step (fun _ k => XS.ifYes X0.here hx rfl (pc0 := 217) (pc' := 241) rfl (hb hby at_217) rfl ((if0 _ _).trans (teq u0).1) (by decide) (by decide) k) ?_
    show Go p e below _ (T.setTop (mkF m 241 #[s0, s1, s2, vI p3, s4, s5, vI pt, vI ed, vI c1, vR a1, vI n1, s11, vU] []))
    refine Go.step (fun _ k => XS.iload X0.here hx rfl (hb hby at_241) rfl  k) ?_
    refine Go.step (fun _ k => XS.iconst X0.here hx rfl (hb hby at_243) k) ?_
    show Go p e below _ (T.setTop (mkF m 244 #[s0, s1, s2, vI p3, s4, s5, vI pt, vI ed, vI c1, vR a1, vI n1, s11, vU] [(.int (1 : Int32)), (.int ed)]))
    by_cases u2 : ed = (1 : Int32)
    · skip
      refine Go.step (fun _ k => XS.icmpNo X0.here hx rfl (hb hby at_244) rfl (teq u2).2 k) ?_
      show Go p e below _ (T.setTop (mkF m 247 #[s0, s1, s2, vI p3, s4, s5, vI pt, vI ed, vI c1, vR a1, vI n1, s11, vU] []))
      refine Go.step (fun _ k => XS.iload X0.here hx rfl (hb hby at_247) rfl  k) ?_
      show Go p e below _ (T.setTop (mkF m 249 #[s0, s1, s2, vI p3, s4, s5, vI pt, vI ed, vI c1, vR a1, vI n1, s11, vU] [(.int n1)]))
      by_cases u3 : (0 : Int32) < n1
      · skip
        refine Go.step (fun _ k => XS.ifNo X0.here hx rfl (hb hby at_249) rfl ((if0 _ _).trans (tlt u3).2.2.2) k) ?_
        show Go p e below _ (T.setTop (mkF m 252 #[s0, s1, s2, vI p3, s4, s5, vI pt, vI ed, vI c1, vR a1, vI n1, s11, vU] []))
        refine Go.step (fun _ k => XS.iload X0.here hx rfl (hb hby at_252) rfl  k) ?_
        refine Go.step (fun _ k => XS.iconst X0.here hx rfl (hb hby at_254) k) ?_
        show Go p e below _ (T.setTop (mkF m 255 #[s0, s1, s2, vI p3, s4, s5, vI pt, vI ed, vI c1, vR a1, vI n1, s11, vU] [(.int (1 : Int32)), (.int n1)]))
        refine Go.step (fun _ k => XS.isub X0.here hx rfl (hb hby at_255) rfl k) ?_
        show Go p e below _ (T.setTop (mkF m 256 #[s0, s1, s2, vI p3, s4, s5, vI pt, vI ed, vI c1, vR a1, vI n1, s11, vU] [(.int (n1 - (1 : Int32)))]))
        refine Go.step (fun _ k => XS.istore X0.here hx rfl (hb hby at_256) rfl (l' := #[s0, s1, s2, vI p3, s4, s5, vI pt, vI ed, vI c1, vR a1, vI (n1 - (1 : Int32)), s11, vU]) rfl k) ?_
        show Go p e below _ (T.setTop (mkF m 258 #[s0, s1, s2, vI p3, s4, s5, vI pt, vI ed, vI c1, vR a1, vI (n1 - (1 : Int32)), s11, vU] []))
        refine Go.step (fun _ k => XS.goto X0.here hx rfl (pc0 := 258) (pc' := 287) rfl (hb hby at_258) (by decide) (by decide) k) ?_
        show Go p e below _ (T.setTop (mkF m 287 #[s0, s1, s2, vI p3, s4, s5, vI pt, vI ed, vI c1, vR a1, vI (n1 - (1 : Int32)), s11, vU] []))
        exact hgo _ _ (vU) ((n1 - (1 : Int32))) (vs) X0 (by rw [e0]; exact ⟨N0, KP0, A_a1, ⟨⟨hv, (n_sub hn1 u3)⟩, Or.inl rfl⟩⟩)
      · skip
        refine Go.step (fun _ k => XS.ifYes X0.here hx rfl (pc0 := 249) (pc' := 261) rfl (hb hby at_249) rfl ((if0 _ _).trans (flt u3).2.2.2) (by decide) (by decide) k) ?_
        show Go p e below _ (T.setTop (mkF m 261 #[s0, s1, s2, vI p3, s4, s5, vI pt, vI ed, vI c1, vR a1, vI n1, s11, vU] []))
        refine Go.step (fun _ k => XS.iload X0.here hx rfl (hb hby at_261) rfl  k) ?_
        refine Go.step (fun _ k => XS.iconst X0.here hx rfl (hb hby at_263) k) ?_
        show Go p e below _ (T.setTop (mkF m 264 #[s0, s1, s2, vI p3, s4, s5, vI pt, vI ed, vI c1, vR a1, vI n1, s11, vU] [(.int (2 : Int32)), (.int ed)]))
        by_cases u4 : ed = (2 : Int32)
        · skip
          refine Go.step (fun _ k => XS.icmpNo X0.here hx rfl (hb hby at_264) rfl (teq u4).2 k) ?_
          show Go p e below _ (T.setTop (mkF m 267 #[s0, s1, s2, vI p3, s4, s5, vI pt, vI ed, vI c1, vR a1, vI n1, s11, vU] []))
          refine Go.step (fun _ k => XS.iload X0.here hx rfl (hb hby at_267) rfl  k) ?_
          refine Go.step (fun _ k => XS.bipush X0.here hx rfl (hb hby at_269) k) ?_
          show Go p e below _ (T.setTop (mkF m 271 #[s0, s1, s2, vI p3, s4, s5, vI pt, vI ed, vI c1, vR a1, vI n1, s11, vU] [(.int (8 : Int32)), (.int n1)]))
          by_cases u5 : n1 < (8 : Int32)
          · skip
            refine Go.step (fun _ k => XS.icmpNo X0.here hx rfl (hb hby at_271) rfl (tlt u5).2.1 k) ?_
            show Go p e below _ (T.setTop (mkF m 274 #[s0, s1, s2, vI p3, s4, s5, vI pt, vI ed, vI c1, vR a1, vI n1, s11, vU] []))
            refine Go.step (fun _ k => XS.aload X0.here hx rfl (hb hby at_274) rfl rfl k) ?_
            refine Go.step (fun _ k => XS.iload X0.here hx rfl (hb hby at_276) rfl  k) ?_
            refine Go.step (fun _ k => XS.iload X0.here hx rfl (hb hby at_278) rfl  k) ?_
            show Go p e below _ (T.setTop (mkF m 280 #[s0, s1, s2, vI p3, s4, s5, vI pt, vI ed, vI c1, vR a1, vI n1, s11, vU] [(.int c1), (.int n1), (.ref a1)]))
            obtain ⟨vt364, e_vt364⟩ : ∃ z, z = (vs.set (n1).toNatClampNeg c1) := ⟨_, rfl⟩
            have hv_vt364 : vt364.length = 8 ∧ ∀ c ∈ vt364, ¬ c < 0 ∧ ¬ (255 : Int32) < c := by rw [e_vt364]; exact ⟨by rw [List.length_set]; exact hv.1, set_lat hv.2 l_c1⟩
            have cp366 := A_a1
            obtain ⟨cl_365, Ar_365, ck_365, Sz_365, Ng_365, Hs_365, Gs_365⟩ := cp366
            have hin_365 : ¬ (n1 < 0 ∨ cl_365.slots.size ≤ (n1).toNatClampNeg) := inb_of Sz_365 (inb8 ⟨hn1.1, by have := hn1.2; omega⟩)
            obtain ⟨T_365, h_365, X_365, e_365, W_365, st_365⟩ := stC X0 hx hZ e0 Ar_365 (j := n1) hin_365 (g := (mkF m 280 #[s0, s1, s2, vI p3, s4, s5, vI pt, vI ed, vI c1, vR a1, vI n1, s11, vU] [(.int c1), (.int n1), (.ref a1)])) rfl rfl (hb hby at_280)
            refine Go.step st_365 ?_
            have N_365 := Fr.snoc X_365 N0 g_a1
            have le_365 : h0.size ≤ h_365.size := Nat.le_of_eq W_365.size.symm
            have KP_365 := KP0.wr W_365 (Or.inl (List.mem_of_getElem? (i := 0) rfl))
            have O_365 := hO.wr W_365 g_a1
            have V_365 : Arv Z h_365 a1 k1 .char (8 : Int32) (vt364.map Value.int) (.int (0 : Int32)) := by
              have q := Arv.set Ar_365 ck_365 Sz_365 Ng_365 Hs_365 Gs_365 (fits_nar_char _) W_365 (n1).toNatClampNeg rfl (by rw [List.length_map, hv.1]; exact in8 ⟨hn1.1, by have := hn1.2; omega⟩)
              rw [nar_lat l_c1, ← List.map_set, ← e_vt364] at q; exact q
            show Go p e below _ (T_365.setTop (mkF m 281 #[s0, s1, s2, vI p3, s4, s5, vI pt, vI ed, vI c1, vR a1, vI n1, s11, vU] []))
            refine Go.step (fun _ k => XS.iload X_365.here hx rfl (hb hby at_281) rfl  k) ?_
            refine Go.step (fun _ k => XS.iconst X_365.here hx rfl (hb hby at_283) k) ?_
            show Go p e below _ (T_365.setTop (mkF m 284 #[s0, s1, s2, vI p3, s4, s5, vI pt, vI ed, vI c1, vR a1, vI n1, s11, vU] [(.int (1 : Int32)), (.int n1)]))
            refine Go.step (fun _ k => XS.iadd X_365.here hx rfl (hb hby at_284) rfl k) ?_
            show Go p e below _ (T_365.setTop (mkF m 285 #[s0, s1, s2, vI p3, s4, s5, vI pt, vI ed, vI c1, vR a1, vI n1, s11, vU] [(.int (n1 + (1 : Int32)))]))
            refine Go.step (fun _ k => XS.istore X_365.here hx rfl (hb hby at_285) rfl (l' := #[s0, s1, s2, vI p3, s4, s5, vI pt, vI ed, vI c1, vR a1, vI (n1 + (1 : Int32)), s11, vU]) rfl k) ?_
            show Go p e below _ (T_365.setTop (mkF m 287 #[s0, s1, s2, vI p3, s4, s5, vI pt, vI ed, vI c1, vR a1, vI (n1 + (1 : Int32)), s11, vU] []))
            exact hgo _ _ (vU) ((n1 + (1 : Int32))) (vt364) X_365 (by rw [e_365]; exact ⟨N_365, KP_365, V_365, ⟨⟨hv_vt364, (n_add hn1)⟩, Or.inl rfl⟩⟩)
          · skip
            refine Go.step (fun _ k => XS.icmpYes X0.here hx rfl (pc0 := 271) (pc' := 287) rfl (hb hby at_271) rfl (flt u5).2.1 (by decide) (by decide) k) ?_
            show Go p e below _ (T.setTop (mkF m 287 #[s0, s1, s2, vI p3, s4, s5, vI pt, vI ed, vI c1, vR a1, vI n1, s11, vU] []))
            exact hgo _ _ (vU) (n1) (vs) X0 (by rw [e0]; exact ⟨N0, KP0, A_a1, ⟨⟨hv, ⟨hn1.1, by have := hn1.2; omega⟩⟩, Or.inl rfl⟩⟩)
        · skip
          refine Go.step (fun _ k => XS.icmpYes X0.here hx rfl (pc0 := 264) (pc' := 287) rfl (hb hby at_264) rfl (feq u4).2 (by decide) (by decide) k) ?_
          show Go p e below _ (T.setTop (mkF m 287 #[s0, s1, s2, vI p3, s4, s5, vI pt, vI ed, vI c1, vR a1, vI n1, s11, vU] []))
          exact hgo _ _ (vU) (n1) (vs) X0 (by rw [e0]; exact ⟨N0, KP0, A_a1, ⟨⟨hv, ⟨hn1.1, by have := hn1.2; omega⟩⟩, Or.inl rfl⟩⟩)
    · skip
      refine Go.step (fun _ k => XS.icmpYes X0.here hx rfl (pc0 := 244) (pc' := 261) rfl (hb hby at_244) rfl (feq u2).2 (by decide) (by decide) k) ?_
      show Go p e below _ (T.setTop (mkF m 261 #[s0, s1, s2, vI p3, s4, s5, vI pt, vI ed, vI c1, vR a1, vI n1, s11, vU] []))
      refine Go.step (fun _ k => XS.iload X0.here hx rfl (hb hby at_261) rfl  k) ?_
      refine Go.step (fun _ k => XS.iconst X0.here hx rfl (hb hby at_263) k) ?_
      show Go p e below _ (T.setTop (mkF m 264 #[s0, s1, s2, vI p3, s4, s5, vI pt, vI ed, vI c1, vR a1, vI n1, s11, vU] [(.int (2 : Int32)), (.int ed)]))
      by_cases u4 : ed = (2 : Int32)
      · skip
        refine Go.step (fun _ k => XS.icmpNo X0.here hx rfl (hb hby at_264) rfl (teq u4).2 k) ?_
        show Go p e below _ (T.setTop (mkF m 267 #[s0, s1, s2, vI p3, s4, s5, vI pt, vI ed, vI c1, vR a1, vI n1, s11, vU] []))
        refine Go.step (fun _ k => XS.iload X0.here hx rfl (hb hby at_267) rfl  k) ?_
        refine Go.step (fun _ k => XS.bipush X0.here hx rfl (hb hby at_269) k) ?_
        show Go p e below _ (T.setTop (mkF m 271 #[s0, s1, s2, vI p3, s4, s5, vI pt, vI ed, vI c1, vR a1, vI n1, s11, vU] [(.int (8 : Int32)), (.int n1)]))
        by_cases u5 : n1 < (8 : Int32)
        · skip
          refine Go.step (fun _ k => XS.icmpNo X0.here hx rfl (hb hby at_271) rfl (tlt u5).2.1 k) ?_
          show Go p e below _ (T.setTop (mkF m 274 #[s0, s1, s2, vI p3, s4, s5, vI pt, vI ed, vI c1, vR a1, vI n1, s11, vU] []))
          refine Go.step (fun _ k => XS.aload X0.here hx rfl (hb hby at_274) rfl rfl k) ?_
          refine Go.step (fun _ k => XS.iload X0.here hx rfl (hb hby at_276) rfl  k) ?_
          refine Go.step (fun _ k => XS.iload X0.here hx rfl (hb hby at_278) rfl  k) ?_
          show Go p e below _ (T.setTop (mkF m 280 #[s0, s1, s2, vI p3, s4, s5, vI pt, vI ed, vI c1, vR a1, vI n1, s11, vU] [(.int c1), (.int n1), (.ref a1)]))
          obtain ⟨vt367, e_vt367⟩ : ∃ z, z = (vs.set (n1).toNatClampNeg c1) := ⟨_, rfl⟩
          have hv_vt367 : vt367.length = 8 ∧ ∀ c ∈ vt367, ¬ c < 0 ∧ ¬ (255 : Int32) < c := by rw [e_vt367]; exact ⟨by rw [List.length_set]; exact hv.1, set_lat hv.2 l_c1⟩
          have cp369 := A_a1
          obtain ⟨cl_368, Ar_368, ck_368, Sz_368, Ng_368, Hs_368, Gs_368⟩ := cp369
          have hin_368 : ¬ (n1 < 0 ∨ cl_368.slots.size ≤ (n1).toNatClampNeg) := inb_of Sz_368 (inb8 ⟨hn1.1, by have := hn1.2; omega⟩)
          obtain ⟨T_368, h_368, X_368, e_368, W_368, st_368⟩ := stC X0 hx hZ e0 Ar_368 (j := n1) hin_368 (g := (mkF m 280 #[s0, s1, s2, vI p3, s4, s5, vI pt, vI ed, vI c1, vR a1, vI n1, s11, vU] [(.int c1), (.int n1), (.ref a1)])) rfl rfl (hb hby at_280)
          refine Go.step st_368 ?_
          have N_368 := Fr.snoc X_368 N0 g_a1
          have le_368 : h0.size ≤ h_368.size := Nat.le_of_eq W_368.size.symm
          have KP_368 := KP0.wr W_368 (Or.inl (List.mem_of_getElem? (i := 0) rfl))
          have O_368 := hO.wr W_368 g_a1
          have V_368 : Arv Z h_368 a1 k1 .char (8 : Int32) (vt367.map Value.int) (.int (0 : Int32)) := by
            have q := Arv.set Ar_368 ck_368 Sz_368 Ng_368 Hs_368 Gs_368 (fits_nar_char _) W_368 (n1).toNatClampNeg rfl (by rw [List.length_map, hv.1]; exact in8 ⟨hn1.1, by have := hn1.2; omega⟩)
            rw [nar_lat l_c1, ← List.map_set, ← e_vt367] at q; exact q
          show Go p e below _ (T_368.setTop (mkF m 281 #[s0, s1, s2, vI p3, s4, s5, vI pt, vI ed, vI c1, vR a1, vI n1, s11, vU] []))
          refine Go.step (fun _ k => XS.iload X_368.here hx rfl (hb hby at_281) rfl  k) ?_
          refine Go.step (fun _ k => XS.iconst X_368.here hx rfl (hb hby at_283) k) ?_
          show Go p e below _ (T_368.setTop (mkF m 284 #[s0, s1, s2, vI p3, s4, s5, vI pt, vI ed, vI c1, vR a1, vI n1, s11, vU] [(.int (1 : Int32)), (.int n1)]))
          refine Go.step (fun _ k => XS.iadd X_368.here hx rfl (hb hby at_284) rfl k) ?_
          show Go p e below _ (T_368.setTop (mkF m 285 #[s0, s1, s2, vI p3, s4, s5, vI pt, vI ed, vI c1, vR a1, vI n1, s11, vU] [(.int (n1 + (1 : Int32)))]))
          refine Go.step (fun _ k => XS.istore X_368.here hx rfl (hb hby at_285) rfl (l' := #[s0, s1, s2, vI p3, s4, s5, vI pt, vI ed, vI c1, vR a1, vI (n1 + (1 : Int32)), s11, vU]) rfl k) ?_
          show Go p e below _ (T_368.setTop (mkF m 287 #[s0, s1, s2, vI p3, s4, s5, vI pt, vI ed, vI c1, vR a1, vI (n1 + (1 : Int32)), s11, vU] []))
          exact hgo _ _ (vU) ((n1 + (1 : Int32))) (vt367) X_368 (by rw [e_368]; exact ⟨N_368, KP_368, V_368, ⟨⟨hv_vt367, (n_add hn1)⟩, Or.inl rfl⟩⟩)
        · skip
          refine Go.step (fun _ k => XS.icmpYes X0.here hx rfl (pc0 := 271) (pc' := 287) rfl (hb hby at_271) rfl (flt u5).2.1 (by decide) (by decide) k) ?_
          show Go p e below _ (T.setTop (mkF m 287 #[s0, s1, s2, vI p3, s4, s5, vI pt, vI ed, vI c1, vR a1, vI n1, s11, vU] []))
          exact hgo _ _ (vU) (n1) (vs) X0 (by rw [e0]; exact ⟨N0, KP0, A_a1, ⟨⟨hv, ⟨hn1.1, by have := hn1.2; omega⟩⟩, Or.inl rfl⟩⟩)
      · skip
        refine Go.step (fun _ k => XS.icmpYes X0.here hx rfl (pc0 := 264) (pc' := 287) rfl (hb hby at_264) rfl (feq u4).2 (by decide) (by decide) k) ?_
        show Go p e below _ (T.setTop (mkF m 287 #[s0, s1, s2, vI p3, s4, s5, vI pt, vI ed, vI c1, vR a1, vI n1, s11, vU] []))
        exact hgo _ _ (vU) (n1) (vs) X0 (by rw [e0]; exact ⟨N0, KP0, A_a1, ⟨⟨hv, ⟨hn1.1, by have := hn1.2; omega⟩⟩, Or.inl rfl⟩⟩)
  · skip
    refine Go.step (fun _ k => XS.ifNo X0.here hx rfl (hb hby at_217) rfl ((if0 _ _).trans (feq u0).1) k) ?_
    show Go p e below _ (T.setTop (mkF m 220 #[s0, s1, s2, vI p3, s4, s5, vI pt, vI ed, vI c1, vR a1, vI n1, s11, vU] []))
    refine Go.step (fun _ k => XS.iload X0.here hx rfl (hb hby at_220) rfl  k) ?_
    show Go p e below _ (T.setTop (mkF m 222 #[s0, s1, s2, vI p3, s4, s5, vI pt, vI ed, vI c1, vR a1, vI n1, s11, vU] [(.int n1)]))
    by_cases u1 : (0 : Int32) < n1
    · skip
      refine Go.step (fun _ k => XS.ifNo X0.here hx rfl (hb hby at_222) rfl ((if0 _ _).trans (tlt u1).2.2.2) k) ?_
      show Go p e below _ (T.setTop (mkF m 225 #[s0, s1, s2, vI p3, s4, s5, vI pt, vI ed, vI c1, vR a1, vI n1, s11, vU] []))
      refine Go.step (fun _ k => XS.iloadN X0.here hx rfl (hb hby at_225) rfl  k) ?_
      show Go p e below _ (T.setTop (mkF m 226 #[s0, s1, s2, vI p3, s4, s5, vI pt, vI ed, vI c1, vR a1, vI n1, s11, vU] [(.int p3)]))
      refine Go.step (fun _ k => X0.ldcInt hx hown (mvT hZ (wd_76 hw)) (g := (mkF m 226 #[s0, s1, s2, vI p3, s4, s5, vI pt, vI ed, vI c1, vR a1, vI n1, s11, vU] [(.int p3)])) rfl (hb hby at_226) _ k) ?_
      show Go p e below _ (T.setTop (mkF m 228 #[s0, s1, s2, vI p3, s4, s5, vI pt, vI ed, vI c1, vR a1, vI n1, s11, vU] [(.int (2147483647 : Int32)), (.int p3)]))
      refine Go.step (fun _ k => XS.iand X0.here hx rfl (hb hby at_228) rfl k) ?_
      show Go p e below _ (T.setTop (mkF m 229 #[s0, s1, s2, vI p3, s4, s5, vI pt, vI ed, vI c1, vR a1, vI n1, s11, vU] [(.int (p3 &&& (2147483647 : Int32)))]))
      refine Go.step (fun _ k => XS.iload X0.here hx rfl (hb hby at_229) rfl  k) ?_
      show Go p e below _ (T.setTop (mkF m 231 #[s0, s1, s2, vI p3, s4, s5, vI pt, vI ed, vI c1, vR a1, vI n1, s11, vU] [(.int n1), (.int (p3 &&& (2147483647 : Int32)))]))
      refine Go.step (fun _ k => iremM X0 hx rfl (hb hby at_231) rfl (gt0_ne u1) k) ?_
      show Go p e below _ (T.setTop (mkF m 232 #[s0, s1, s2, vI p3, s4, s5, vI pt, vI ed, vI c1, vR a1, vI n1, s11, vU] [(.int ((p3 &&& (2147483647 : Int32)) % n1))]))
      refine Go.step (fun _ k => XS.istore X0.here hx rfl (hb hby at_232) rfl (l' := #[s0, s1, s2, vI p3, s4, s5, vI pt, vI ed, vI c1, vR a1, vI n1, s11, vI ((p3 &&& (2147483647 : Int32)) % n1)]) rfl k) ?_
      show Go p e below _ (T.setTop (mkF m 234 #[s0, s1, s2, vI p3, s4, s5, vI pt, vI ed, vI c1, vR a1, vI n1, s11, vI ((p3 &&& (2147483647 : Int32)) % n1)] []))
      obtain ⟨pp, h_pp⟩ : ∃ z, z = ((p3 &&& (2147483647 : Int32)) % n1) := ⟨_, rfl⟩
      rw [← h_pp]
      show Go p e below _ (T.setTop (mkF m 234 #[s0, s1, s2, vI p3, s4, s5, vI pt, vI ed, vI c1, vR a1, vI n1, s11, vI pp] []))
      have h_pp : 0 ≤ pp.toInt ∧ pp.toInt < n1.toInt := by rw [h_pp]; exact remN _ hn1 u1
      show Go p e below _ (T.setTop (mkF m 234 #[s0, s1, s2, vI p3, s4, s5, vI pt, vI ed, vI c1, vR a1, vI n1, s11, vI pp] []))
      refine Go.step (fun _ k => XS.aload X0.here hx rfl (hb hby at_234) rfl rfl k) ?_
      refine Go.step (fun _ k => XS.iload X0.here hx rfl (hb hby at_236) rfl  k) ?_
      refine Go.step (fun _ k => XS.iload X0.here hx rfl (hb hby at_238) rfl  k) ?_
      show Go p e below _ (T.setTop (mkF m 240 #[s0, s1, s2, vI p3, s4, s5, vI pt, vI ed, vI c1, vR a1, vI n1, s11, vI pp] [(.int c1), (.int pp), (.ref a1)]))
      obtain ⟨vt370, e_vt370⟩ : ∃ z, z = (vs.set (pp).toNatClampNeg c1) := ⟨_, rfl⟩
      have hv_vt370 : vt370.length = 8 ∧ ∀ c ∈ vt370, ¬ c < 0 ∧ ¬ (255 : Int32) < c := by rw [e_vt370]; exact ⟨by rw [List.length_set]; exact hv.1, set_lat hv.2 l_c1⟩
      have cp372 := A_a1
      obtain ⟨cl_371, Ar_371, ck_371, Sz_371, Ng_371, Hs_371, Gs_371⟩ := cp372
      have hin_371 : ¬ (pp < 0 ∨ cl_371.slots.size ≤ (pp).toNatClampNeg) := inb_of Sz_371 (inb8 ⟨h_pp.1, by have := h_pp.2; have := hn1.2; omega⟩)
      obtain ⟨T_371, h_371, X_371, e_371, W_371, st_371⟩ := stC X0 hx hZ e0 Ar_371 (j := pp) hin_371 (g := (mkF m 240 #[s0, s1, s2, vI p3, s4, s5, vI pt, vI ed, vI c1, vR a1, vI n1, s11, vI pp] [(.int c1), (.int pp), (.ref a1)])) rfl rfl (hb hby at_240)
      refine Go.step st_371 ?_
      have N_371 := Fr.snoc X_371 N0 g_a1
      have le_371 : h0.size ≤ h_371.size := Nat.le_of_eq W_371.size.symm
      have KP_371 := KP0.wr W_371 (Or.inl (List.mem_of_getElem? (i := 0) rfl))
      have O_371 := hO.wr W_371 g_a1
      have V_371 : Arv Z h_371 a1 k1 .char (8 : Int32) (vt370.map Value.int) (.int (0 : Int32)) := by
        have q := Arv.set Ar_371 ck_371 Sz_371 Ng_371 Hs_371 Gs_371 (fits_nar_char _) W_371 (pp).toNatClampNeg rfl (by rw [List.length_map, hv.1]; exact in8 ⟨h_pp.1, by have := h_pp.2; have := hn1.2; omega⟩)
        rw [nar_lat l_c1, ← List.map_set, ← e_vt370] at q; exact q
      show Go p e below _ (T_371.setTop (mkF m 241 #[s0, s1, s2, vI p3, s4, s5, vI pt, vI ed, vI c1, vR a1, vI n1, s11, vI pp] []))
      refine Go.step (fun _ k => XS.iload X_371.here hx rfl (hb hby at_241) rfl  k) ?_
      refine Go.step (fun _ k => XS.iconst X_371.here hx rfl (hb hby at_243) k) ?_
      show Go p e below _ (T_371.setTop (mkF m 244 #[s0, s1, s2, vI p3, s4, s5, vI pt, vI ed, vI c1, vR a1, vI n1, s11, vI pp] [(.int (1 : Int32)), (.int ed)]))
      by_cases u2 : ed = (1 : Int32)
      · skip
        refine Go.step (fun _ k => XS.icmpNo X_371.here hx rfl (hb hby at_244) rfl (teq u2).2 k) ?_
        show Go p e below _ (T_371.setTop (mkF m 247 #[s0, s1, s2, vI p3, s4, s5, vI pt, vI ed, vI c1, vR a1, vI n1, s11, vI pp] []))
        refine Go.step (fun _ k => XS.iload X_371.here hx rfl (hb hby at_247) rfl  k) ?_
        show Go p e below _ (T_371.setTop (mkF m 249 #[s0, s1, s2, vI p3, s4, s5, vI pt, vI ed, vI c1, vR a1, vI n1, s11, vI pp] [(.int n1)]))
        by_cases u3 : (0 : Int32) < n1
        · skip
          refine Go.step (fun _ k => XS.ifNo X_371.here hx rfl (hb hby at_249) rfl ((if0 _ _).trans (tlt u3).2.2.2) k) ?_
          show Go p e below _ (T_371.setTop (mkF m 252 #[s0, s1, s2, vI p3, s4, s5, vI pt, vI ed, vI c1, vR a1, vI n1, s11, vI pp] []))
          refine Go.step (fun _ k => XS.iload X_371.here hx rfl (hb hby at_252) rfl  k) ?_
          refine Go.step (fun _ k => XS.iconst X_371.here hx rfl (hb hby at_254) k) ?_
          show Go p e below _ (T_371.setTop (mkF m 255 #[s0, s1, s2, vI p3, s4, s5, vI pt, vI ed, vI c1, vR a1, vI n1, s11, vI pp] [(.int (1 : Int32)), (.int n1)]))
          refine Go.step (fun _ k => XS.isub X_371.here hx rfl (hb hby at_255) rfl k) ?_
          show Go p e below _ (T_371.setTop (mkF m 256 #[s0, s1, s2, vI p3, s4, s5, vI pt, vI ed, vI c1, vR a1, vI n1, s11, vI pp] [(.int (n1 - (1 : Int32)))]))
          refine Go.step (fun _ k => XS.istore X_371.here hx rfl (hb hby at_256) rfl (l' := #[s0, s1, s2, vI p3, s4, s5, vI pt, vI ed, vI c1, vR a1, vI (n1 - (1 : Int32)), s11, vI pp]) rfl k) ?_
          show Go p e below _ (T_371.setTop (mkF m 258 #[s0, s1, s2, vI p3, s4, s5, vI pt, vI ed, vI c1, vR a1, vI (n1 - (1 : Int32)), s11, vI pp] []))
          refine Go.step (fun _ k => XS.goto X_371.here hx rfl (pc0 := 258) (pc' := 287) rfl (hb hby at_258) (by decide) (by decide) k) ?_
          show Go p e below _ (T_371.setTop (mkF m 287 #[s0, s1, s2, vI p3, s4, s5, vI pt, vI ed, vI c1, vR a1, vI (n1 - (1 : Int32)), s11, vI pp] []))
          exact hgo _ _ (vI pp) ((n1 - (1 : Int32))) (vt370) X_371 (by rw [e_371]; exact ⟨N_371, KP_371, V_371, ⟨⟨hv_vt370, (n_sub hn1 u3)⟩, Or.inr ⟨_, rfl⟩⟩⟩)
        · skip
          refine Go.step (fun _ k => XS.ifYes X_371.here hx rfl (pc0 := 249) (pc' := 261) rfl (hb hby at_249) rfl ((if0 _ _).trans (flt u3).2.2.2) (by decide) (by decide) k) ?_
          show Go p e below _ (T_371.setTop (mkF m 261 #[s0, s1, s2, vI p3, s4, s5, vI pt, vI ed, vI c1, vR a1, vI n1, s11, vI pp] []))
          refine Go.step (fun _ k => XS.iload X_371.here hx rfl (hb hby at_261) rfl  k) ?_
          refine Go.step (fun _ k => XS.iconst X_371.here hx rfl (hb hby at_263) k) ?_
          show Go p e below _ (T_371.setTop (mkF m 264 #[s0, s1, s2, vI p3, s4, s5, vI pt, vI ed, vI c1, vR a1, vI n1, s11, vI pp] [(.int (2 : Int32)), (.int ed)]))
          by_cases u4 : ed = (2 : Int32)
          · skip
            refine Go.step (fun _ k => XS.icmpNo X_371.here hx rfl (hb hby at_264) rfl (teq u4).2 k) ?_
            show Go p e below _ (T_371.setTop (mkF m 267 #[s0, s1, s2, vI p3, s4, s5, vI pt, vI ed, vI c1, vR a1, vI n1, s11, vI pp] []))
            refine Go.step (fun _ k => XS.iload X_371.here hx rfl (hb hby at_267) rfl  k) ?_
            refine Go.step (fun _ k => XS.bipush X_371.here hx rfl (hb hby at_269) k) ?_
            show Go p e below _ (T_371.setTop (mkF m 271 #[s0, s1, s2, vI p3, s4, s5, vI pt, vI ed, vI c1, vR a1, vI n1, s11, vI pp] [(.int (8 : Int32)), (.int n1)]))
            by_cases u5 : n1 < (8 : Int32)
            · skip
              refine Go.step (fun _ k => XS.icmpNo X_371.here hx rfl (hb hby at_271) rfl (tlt u5).2.1 k) ?_
              show Go p e below _ (T_371.setTop (mkF m 274 #[s0, s1, s2, vI p3, s4, s5, vI pt, vI ed, vI c1, vR a1, vI n1, s11, vI pp] []))
              refine Go.step (fun _ k => XS.aload X_371.here hx rfl (hb hby at_274) rfl rfl k) ?_
              refine Go.step (fun _ k => XS.iload X_371.here hx rfl (hb hby at_276) rfl  k) ?_
              refine Go.step (fun _ k => XS.iload X_371.here hx rfl (hb hby at_278) rfl  k) ?_
              show Go p e below _ (T_371.setTop (mkF m 280 #[s0, s1, s2, vI p3, s4, s5, vI pt, vI ed, vI c1, vR a1, vI n1, s11, vI pp] [(.int c1), (.int n1), (.ref a1)]))
              obtain ⟨vt373, e_vt373⟩ : ∃ z, z = (vt370.set (n1).toNatClampNeg c1) := ⟨_, rfl⟩
              have hv_vt373 : vt373.length = 8 ∧ ∀ c ∈ vt373, ¬ c < 0 ∧ ¬ (255 : Int32) < c := by rw [e_vt373]; exact ⟨by rw [List.length_set]; exact hv_vt370.1, set_lat hv_vt370.2 l_c1⟩
              have cp375 := V_371
              obtain ⟨cl_374, Ar_374, ck_374, Sz_374, Ng_374, Hs_374, Gs_374⟩ := cp375
              have hin_374 : ¬ (n1 < 0 ∨ cl_374.slots.size ≤ (n1).toNatClampNeg) := inb_of Sz_374 (inb8 ⟨hn1.1, by have := hn1.2; omega⟩)
              obtain ⟨T_374, h_374, X_374, e_374, W_374, st_374⟩ := stC X_371 hx hZ e_371 Ar_374 (j := n1) hin_374 (g := (mkF m 280 #[s0, s1, s2, vI p3, s4, s5, vI pt, vI ed, vI c1, vR a1, vI n1, s11, vI pp] [(.int c1), (.int n1), (.ref a1)])) rfl rfl (hb hby at_280)
              refine Go.step st_374 ?_
              have N_374 := Fr.snoc X_374 N_371 g_a1
              have le_374 : h_371.size ≤ h_374.size := Nat.le_of_eq W_374.size.symm
              have KP_374 := KP_371.wr W_374 (Or.inl (List.mem_of_getElem? (i := 0) rfl))
              have O_374 := O_371.wr W_374 g_a1
              have V_374 : Arv Z h_374 a1 k1 .char (8 : Int32) (vt373.map Value.int) (.int (0 : Int32)) := by
                have q := Arv.set Ar_374 ck_374 Sz_374 Ng_374 Hs_374 Gs_374 (fits_nar_char _) W_374 (n1).toNatClampNeg rfl (by rw [List.length_map, hv_vt370.1]; exact in8 ⟨hn1.1, by have := hn1.2; omega⟩)
                rw [nar_lat l_c1, ← List.map_set, ← e_vt373] at q; exact q
              show Go p e below _ (T_374.setTop (mkF m 281 #[s0, s1, s2, vI p3, s4, s5, vI pt, vI ed, vI c1, vR a1, vI n1, s11, vI pp] []))
              refine Go.step (fun _ k => XS.iload X_374.here hx rfl (hb hby at_281) rfl  k) ?_
              refine Go.step (fun _ k => XS.iconst X_374.here hx rfl (hb hby at_283) k) ?_
              show Go p e below _ (T_374.setTop (mkF m 284 #[s0, s1, s2, vI p3, s4, s5, vI pt, vI ed, vI c1, vR a1, vI n1, s11, vI pp] [(.int (1 : Int32)), (.int n1)]))
              refine Go.step (fun _ k => XS.iadd X_374.here hx rfl (hb hby at_284) rfl k) ?_
              show Go p e below _ (T_374.setTop (mkF m 285 #[s0, s1, s2, vI p3, s4, s5, vI pt, vI ed, vI c1, vR a1, vI n1, s11, vI pp] [(.int (n1 + (1 : Int32)))]))
              refine Go.step (fun _ k => XS.istore X_374.here hx rfl (hb hby at_285) rfl (l' := #[s0, s1, s2, vI p3, s4, s5, vI pt, vI ed, vI c1, vR a1, vI (n1 + (1 : Int32)), s11, vI pp]) rfl k) ?_
              show Go p e below _ (T_374.setTop (mkF m 287 #[s0, s1, s2, vI p3, s4, s5, vI pt, vI ed, vI c1, vR a1, vI (n1 + (1 : Int32)), s11, vI pp] []))
              exact hgo _ _ (vI pp) ((n1 + (1 : Int32))) (vt373) X_374 (by rw [e_374]; exact ⟨N_374, KP_374, V_374, ⟨⟨hv_vt373, (n_add hn1)⟩, Or.inr ⟨_, rfl⟩⟩⟩)
            · skip
              refine Go.step (fun _ k => XS.icmpYes X_371.here hx rfl (pc0 := 271) (pc' := 287) rfl (hb hby at_271) rfl (flt u5).2.1 (by decide) (by decide) k) ?_
              show Go p e below _ (T_371.setTop (mkF m 287 #[s0, s1, s2, vI p3, s4, s5, vI pt, vI ed, vI c1, vR a1, vI n1, s11, vI pp] []))
              exact hgo _ _ (vI pp) (n1) (vt370) X_371 (by rw [e_371]; exact ⟨N_371, KP_371, V_371, ⟨⟨hv_vt370, ⟨hn1.1, by have := hn1.2; omega⟩⟩, Or.inr ⟨_, rfl⟩⟩⟩)
          · skip
            refine Go.step (fun _ k => XS.icmpYes X_371.here hx rfl (pc0 := 264) (pc' := 287) rfl (hb hby at_264) rfl (feq u4).2 (by decide) (by decide) k) ?_
            show Go p e below _ (T_371.setTop (mkF m 287 #[s0, s1, s2, vI p3, s4, s5, vI pt, vI ed, vI c1, vR a1, vI n1, s11, vI pp] []))
            exact hgo _ _ (vI pp) (n1) (vt370) X_371 (by rw [e_371]; exact ⟨N_371, KP_371, V_371, ⟨⟨hv_vt370, ⟨hn1.1, by have := hn1.2; omega⟩⟩, Or.inr ⟨_, rfl⟩⟩⟩)
      · skip
        refine Go.step (fun _ k => XS.icmpYes X_371.here hx rfl (pc0 := 244) (pc' := 261) rfl (hb hby at_244) rfl (feq u2).2 (by decide) (by decide) k) ?_
        show Go p e below _ (T_371.setTop (mkF m 261 #[s0, s1, s2, vI p3, s4, s5, vI pt, vI ed, vI c1, vR a1, vI n1, s11, vI pp] []))
        refine Go.step (fun _ k => XS.iload X_371.here hx rfl (hb hby at_261) rfl  k) ?_
        refine Go.step (fun _ k => XS.iconst X_371.here hx rfl (hb hby at_263) k) ?_
        show Go p e below _ (T_371.setTop (mkF m 264 #[s0, s1, s2, vI p3, s4, s5, vI pt, vI ed, vI c1, vR a1, vI n1, s11, vI pp] [(.int (2 : Int32)), (.int ed)]))
        by_cases u4 : ed = (2 : Int32)
        · skip
          refine Go.step (fun _ k => XS.icmpNo X_371.here hx rfl (hb hby at_264) rfl (teq u4).2 k) ?_
          show Go p e below _ (T_371.setTop (mkF m 267 #[s0, s1, s2, vI p3, s4, s5, vI pt, vI ed, vI c1, vR a1, vI n1, s11, vI pp] []))
          refine Go.step (fun _ k => XS.iload X_371.here hx rfl (hb hby at_267) rfl  k) ?_
          refine Go.step (fun _ k => XS.bipush X_371.here hx rfl (hb hby at_269) k) ?_
          show Go p e below _ (T_371.setTop (mkF m 271 #[s0, s1, s2, vI p3, s4, s5, vI pt, vI ed, vI c1, vR a1, vI n1, s11, vI pp] [(.int (8 : Int32)), (.int n1)]))
          by_cases u5 : n1 < (8 : Int32)
          · skip
            refine Go.step (fun _ k => XS.icmpNo X_371.here hx rfl (hb hby at_271) rfl (tlt u5).2.1 k) ?_
            show Go p e below _ (T_371.setTop (mkF m 274 #[s0, s1, s2, vI p3, s4, s5, vI pt, vI ed, vI c1, vR a1, vI n1, s11, vI pp] []))
            refine Go.step (fun _ k => XS.aload X_371.here hx rfl (hb hby at_274) rfl rfl k) ?_
            refine Go.step (fun _ k => XS.iload X_371.here hx rfl (hb hby at_276) rfl  k) ?_
            refine Go.step (fun _ k => XS.iload X_371.here hx rfl (hb hby at_278) rfl  k) ?_
            show Go p e below _ (T_371.setTop (mkF m 280 #[s0, s1, s2, vI p3, s4, s5, vI pt, vI ed, vI c1, vR a1, vI n1, s11, vI pp] [(.int c1), (.int n1), (.ref a1)]))
            obtain ⟨vt376, e_vt376⟩ : ∃ z, z = (vt370.set (n1).toNatClampNeg c1) := ⟨_, rfl⟩
            have hv_vt376 : vt376.length = 8 ∧ ∀ c ∈ vt376, ¬ c < 0 ∧ ¬ (255 : Int32) < c := by rw [e_vt376]; exact ⟨by rw [List.length_set]; exact hv_vt370.1, set_lat hv_vt370.2 l_c1⟩
            have cp378 := V_371
            obtain ⟨cl_377, Ar_377, ck_377, Sz_377, Ng_377, Hs_377, Gs_377⟩ := cp378
            have hin_377 : ¬ (n1 < 0 ∨ cl_377.slots.size ≤ (n1).toNatClampNeg) := inb_of Sz_377 (inb8 ⟨hn1.1, by have := hn1.2; omega⟩)
            obtain ⟨T_377, h_377, X_377, e_377, W_377, st_377⟩ := stC X_371 hx hZ e_371 Ar_377 (j := n1) hin_377 (g := (mkF m 280 #[s0, s1, s2, vI p3, s4, s5, vI pt, vI ed, vI c1, vR a1, vI n1, s11, vI pp] [(.int c1), (.int n1), (.ref a1)])) rfl rfl (hb hby at_280)
            refine Go.step st_377 ?_
            have N_377 := Fr.snoc X_377 N_371 g_a1
            have le_377 : h_371.size ≤ h_377.size := Nat.le_of_eq W_377.size.symm
            have KP_377 := KP_371.wr W_377 (Or.inl (List.mem_of_getElem? (i := 0) rfl))
            have O_377 := O_371.wr W_377 g_a1
            have V_377 : Arv Z h_377 a1 k1 .char (8 : Int32) (vt376.map Value.int) (.int (0 : Int32)) := by
              have q := Arv.set Ar_377 ck_377 Sz_377 Ng_377 Hs_377 Gs_377 (fits_nar_char _) W_377 (n1).toNatClampNeg rfl (by rw [List.length_map, hv_vt370.1]; exact in8 ⟨hn1.1, by have := hn1.2; omega⟩)
              rw [nar_lat l_c1, ← List.map_set, ← e_vt376] at q; exact q
            show Go p e below _ (T_377.setTop (mkF m 281 #[s0, s1, s2, vI p3, s4, s5, vI pt, vI ed, vI c1, vR a1, vI n1, s11, vI pp] []))
            refine Go.step (fun _ k => XS.iload X_377.here hx rfl (hb hby at_281) rfl  k) ?_
            refine Go.step (fun _ k => XS.iconst X_377.here hx rfl (hb hby at_283) k) ?_
            show Go p e below _ (T_377.setTop (mkF m 284 #[s0, s1, s2, vI p3, s4, s5, vI pt, vI ed, vI c1, vR a1, vI n1, s11, vI pp] [(.int (1 : Int32)), (.int n1)]))
            refine Go.step (fun _ k => XS.iadd X_377.here hx rfl (hb hby at_284) rfl k) ?_
            show Go p e below _ (T_377.setTop (mkF m 285 #[s0, s1, s2, vI p3, s4, s5, vI pt, vI ed, vI c1, vR a1, vI n1, s11, vI pp] [(.int (n1 + (1 : Int32)))]))
            refine Go.step (fun _ k => XS.istore X_377.here hx rfl (hb hby at_285) rfl (l' := #[s0, s1, s2, vI p3, s4, s5, vI pt, vI ed, vI c1, vR a1, vI (n1 + (1 : Int32)), s11, vI pp]) rfl k) ?_
            show Go p e below _ (T_377.setTop (mkF m 287 #[s0, s1, s2, vI p3, s4, s5, vI pt, vI ed, vI c1, vR a1, vI (n1 + (1 : Int32)), s11, vI pp] []))
            exact hgo _ _ (vI pp) ((n1 + (1 : Int32))) (vt376) X_377 (by rw [e_377]; exact ⟨N_377, KP_377, V_377, ⟨⟨hv_vt376, (n_add hn1)⟩, Or.inr ⟨_, rfl⟩⟩⟩)
          · skip
            refine Go.step (fun _ k => XS.icmpYes X_371.here hx rfl (pc0 := 271) (pc' := 287) rfl (hb hby at_271) rfl (flt u5).2.1 (by decide) (by decide) k) ?_
            show Go p e below _ (T_371.setTop (mkF m 287 #[s0, s1, s2, vI p3, s4, s5, vI pt, vI ed, vI c1, vR a1, vI n1, s11, vI pp] []))
            exact hgo _ _ (vI pp) (n1) (vt370) X_371 (by rw [e_371]; exact ⟨N_371, KP_371, V_371, ⟨⟨hv_vt370, ⟨hn1.1, by have := hn1.2; omega⟩⟩, Or.inr ⟨_, rfl⟩⟩⟩)
        · skip
          refine Go.step (fun _ k => XS.icmpYes X_371.here hx rfl (pc0 := 264) (pc' := 287) rfl (hb hby at_264) rfl (feq u4).2 (by decide) (by decide) k) ?_
          show Go p e below _ (T_371.setTop (mkF m 287 #[s0, s1, s2, vI p3, s4, s5, vI pt, vI ed, vI c1, vR a1, vI n1, s11, vI pp] []))
          exact hgo _ _ (vI pp) (n1) (vt370) X_371 (by rw [e_371]; exact ⟨N_371, KP_371, V_371, ⟨⟨hv_vt370, ⟨hn1.1, by have := hn1.2; omega⟩⟩, Or.inr ⟨_, rfl⟩⟩⟩)
    · skip
      refine Go.step (fun _ k => XS.ifYes X0.here hx rfl (pc0 := 222) (pc' := 241) rfl (hb hby at_222) rfl ((if0 _ _).trans (flt u1).2.2.2) (by decide) (by decide) k) ?_
      show Go p e below _ (T.setTop (mkF m 241 #[s0, s1, s2, vI p3, s4, s5, vI pt, vI ed, vI c1, vR a1, vI n1, s11, vU] []))
      refine Go.step (fun _ k => XS.iload X0.here hx rfl (hb hby at_241) rfl  k) ?_
      refine Go.step (fun _ k => XS.iconst X0.here hx rfl (hb hby at_243) k) ?_
      show Go p e below _ (T.setTop (mkF m 244 #[s0, s1, s2, vI p3, s4, s5, vI pt, vI ed, vI c1, vR a1, vI n1, s11, vU] [(.int (1 : Int32)), (.int ed)]))
      by_cases u2 : ed = (1 : Int32)
      · skip
        refine Go.step (fun _ k => XS.icmpNo X0.here hx rfl (hb hby at_244) rfl (teq u2).2 k) ?_
        show Go p e below _ (T.setTop (mkF m 247 #[s0, s1, s2, vI p3, s4, s5, vI pt, vI ed, vI c1, vR a1, vI n1, s11, vU] []))
        refine Go.step (fun _ k => XS.iload X0.here hx rfl (hb hby at_247) rfl  k) ?_
        show Go p e below _ (T.setTop (mkF m 249 #[s0, s1, s2, vI p3, s4, s5, vI pt, vI ed, vI c1, vR a1, vI n1, s11, vU] [(.int n1)]))
        by_cases u3 : (0 : Int32) < n1
        · skip
          refine Go.step (fun _ k => XS.ifNo X0.here hx rfl (hb hby at_249) rfl ((if0 _ _).trans (tlt u3).2.2.2) k) ?_
          show Go p e below _ (T.setTop (mkF m 252 #[s0, s1, s2, vI p3, s4, s5, vI pt, vI ed, vI c1, vR a1, vI n1, s11, vU] []))
          refine Go.step (fun _ k => XS.iload X0.here hx rfl (hb hby at_252) rfl  k) ?_
          refine Go.step (fun _ k => XS.iconst X0.here hx rfl (hb hby at_254) k) ?_
          show Go p e below _ (T.setTop (mkF m 255 #[s0, s1, s2, vI p3, s4, s5, vI pt, vI ed, vI c1, vR a1, vI n1, s11, vU] [(.int (1 : Int32)), (.int n1)]))
          refine Go.step (fun _ k => XS.isub X0.here hx rfl (hb hby at_255) rfl k) ?_
          show Go p e below _ (T.setTop (mkF m 256 #[s0, s1, s2, vI p3, s4, s5, vI pt, vI ed, vI c1, vR a1, vI n1, s11, vU] [(.int (n1 - (1 : Int32)))]))
          refine Go.step (fun _ k => XS.istore X0.here hx rfl (hb hby at_256) rfl (l' := #[s0, s1, s2, vI p3, s4, s5, vI pt, vI ed, vI c1, vR a1, vI (n1 - (1 : Int32)), s11, vU]) rfl k) ?_
          show Go p e below _ (T.setTop (mkF m 258 #[s0, s1, s2, vI p3, s4, s5, vI pt, vI ed, vI c1, vR a1, vI (n1 - (1 : Int32)), s11, vU] []))
          refine Go.step (fun _ k => XS.goto X0.here hx rfl (pc0 := 258) (pc' := 287) rfl (hb hby at_258) (by decide) (by decide) k) ?_
          show Go p e below _ (T.setTop (mkF m 287 #[s0, s1, s2, vI p3, s4, s5, vI pt, vI ed, vI c1, vR a1, vI (n1 - (1 : Int32)), s11, vU] []))
          exact hgo _ _ (vU) ((n1 - (1 : Int32))) (vs) X0 (by rw [e0]; exact ⟨N0, KP0, A_a1, ⟨⟨hv, (n_sub hn1 u3)⟩, Or.inl rfl⟩⟩)
        · skip
          refine Go.step (fun _ k => XS.ifYes X0.here hx rfl (pc0 := 249) (pc' := 261) rfl (hb hby at_249) rfl ((if0 _ _).trans (flt u3).2.2.2) (by decide) (by decide) k) ?_
          show Go p e below _ (T.setTop (mkF m 261 #[s0, s1, s2, vI p3, s4, s5, vI pt, vI ed, vI c1, vR a1, vI n1, s11, vU] []))
          refine Go.step (fun _ k => XS.iload X0.here hx rfl (hb hby at_261) rfl  k) ?_
          refine Go.step (fun _ k => XS.iconst X0.here hx rfl (hb hby at_263) k) ?_
          show Go p e below _ (T.setTop (mkF m 264 #[s0, s1, s2, vI p3, s4, s5, vI pt, vI ed, vI c1, vR a1, vI n1, s11, vU] [(.int (2 : Int32)), (.int ed)]))
          by_cases u4 : ed = (2 : Int32)
          · skip
            refine Go.step (fun _ k => XS.icmpNo X0.here hx rfl (hb hby at_264) rfl (teq u4).2 k) ?_
            show Go p e below _ (T.setTop (mkF m 267 #[s0, s1, s2, vI p3, s4, s5, vI pt, vI ed, vI c1, vR a1, vI n1, s11, vU] []))
            refine Go.step (fun _ k => XS.iload X0.here hx rfl (hb hby at_267) rfl  k) ?_
            refine Go.step (fun _ k => XS.bipush X0.here hx rfl (hb hby at_269) k) ?_
            show Go p e below _ (T.setTop (mkF m 271 #[s0, s1, s2, vI p3, s4, s5, vI pt, vI ed, vI c1, vR a1, vI n1, s11, vU] [(.int (8 : Int32)), (.int n1)]))
            by_cases u5 : n1 < (8 : Int32)
            · skip
              refine Go.step (fun _ k => XS.icmpNo X0.here hx rfl (hb hby at_271) rfl (tlt u5).2.1 k) ?_
              show Go p e below _ (T.setTop (mkF m 274 #[s0, s1, s2, vI p3, s4, s5, vI pt, vI ed, vI c1, vR a1, vI n1, s11, vU] []))
              refine Go.step (fun _ k => XS.aload X0.here hx rfl (hb hby at_274) rfl rfl k) ?_
              refine Go.step (fun _ k => XS.iload X0.here hx rfl (hb hby at_276) rfl  k) ?_
              refine Go.step (fun _ k => XS.iload X0.here hx rfl (hb hby at_278) rfl  k) ?_
              show Go p e below _ (T.setTop (mkF m 280 #[s0, s1, s2, vI p3, s4, s5, vI pt, vI ed, vI c1, vR a1, vI n1, s11, vU] [(.int c1), (.int n1), (.ref a1)]))
              obtain ⟨vt379, e_vt379⟩ : ∃ z, z = (vs.set (n1).toNatClampNeg c1) := ⟨_, rfl⟩
              have hv_vt379 : vt379.length = 8 ∧ ∀ c ∈ vt379, ¬ c < 0 ∧ ¬ (255 : Int32) < c := by rw [e_vt379]; exact ⟨by rw [List.length_set]; exact hv.1, set_lat hv.2 l_c1⟩
              have cp381 := A_a1
              obtain ⟨cl_380, Ar_380, ck_380, Sz_380, Ng_380, Hs_380, Gs_380⟩ := cp381
              have hin_380 : ¬ (n1 < 0 ∨ cl_380.slots.size ≤ (n1).toNatClampNeg) := inb_of Sz_380 (inb8 ⟨hn1.1, by have := hn1.2; omega⟩)
              obtain ⟨T_380, h_380, X_380, e_380, W_380, st_380⟩ := stC X0 hx hZ e0 Ar_380 (j := n1) hin_380 (g := (mkF m 280 #[s0, s1, s2, vI p3, s4, s5, vI pt, vI ed, vI c1, vR a1, vI n1, s11, vU] [(.int c1), (.int n1), (.ref a1)])) rfl rfl (hb hby at_280)
              refine Go.step st_380 ?_
              have N_380 := Fr.snoc X_380 N0 g_a1
              have le_380 : h0.size ≤ h_380.size := Nat.le_of_eq W_380.size.symm
              have KP_380 := KP0.wr W_380 (Or.inl (List.mem_of_getElem? (i := 0) rfl))
              have O_380 := hO.wr W_380 g_a1
              have V_380 : Arv Z h_380 a1 k1 .char (8 : Int32) (vt379.map Value.int) (.int (0 : Int32)) := by
                have q := Arv.set Ar_380 ck_380 Sz_380 Ng_380 Hs_380 Gs_380 (fits_nar_char _) W_380 (n1).toNatClampNeg rfl (by rw [List.length_map, hv.1]; exact in8 ⟨hn1.1, by have := hn1.2; omega⟩)
                rw [nar_lat l_c1, ← List.map_set, ← e_vt379] at q; exact q
              show Go p e below _ (T_380.setTop (mkF m 281 #[s0, s1, s2, vI p3, s4, s5, vI pt, vI ed, vI c1, vR a1, vI n1, s11, vU] []))
              refine Go.step (fun _ k => XS.iload X_380.here hx rfl (hb hby at_281) rfl  k) ?_
              refine Go.step (fun _ k => XS.iconst X_380.here hx rfl (hb hby at_283) k) ?_
              show Go p e below _ (T_380.setTop (mkF m 284 #[s0, s1, s2, vI p3, s4, s5, vI pt, vI ed, vI c1, vR a1, vI n1, s11, vU] [(.int (1 : Int32)), (.int n1)]))
              refine Go.step (fun _ k => XS.iadd X_380.here hx rfl (hb hby at_284) rfl k) ?_
              show Go p e below _ (T_380.setTop (mkF m 285 #[s0, s1, s2, vI p3, s4, s5, vI pt, vI ed, vI c1, vR a1, vI n1, s11, vU] [(.int (n1 + (1 : Int32)))]))
              refine Go.step (fun _ k => XS.istore X_380.here hx rfl (hb hby at_285) rfl (l' := #[s0, s1, s2, vI p3, s4, s5, vI pt, vI ed, vI c1, vR a1, vI (n1 + (1 : Int32)), s11, vU]) rfl k) ?_
              show Go p e below _ (T_380.setTop (mkF m 287 #[s0, s1, s2, vI p3, s4, s5, vI pt, vI ed, vI c1, vR a1, vI (n1 + (1 : Int32)), s11, vU] []))
              exact hgo _ _ (vU) ((n1 + (1 : Int32))) (vt379) X_380 (by rw [e_380]; exact ⟨N_380, KP_380, V_380, ⟨⟨hv_vt379, (n_add hn1)⟩, Or.inl rfl⟩⟩)
            · skip
              refine Go.step (fun _ k => XS.icmpYes X0.here hx rfl (pc0 := 271) (pc' := 287) rfl (hb hby at_271) rfl (flt u5).2.1 (by decide) (by decide) k) ?_
              show Go p e below _ (T.setTop (mkF m 287 #[s0, s1, s2, vI p3, s4, s5, vI pt, vI ed, vI c1, vR a1, vI n1, s11, vU] []))
              exact hgo _ _ (vU) (n1) (vs) X0 (by rw [e0]; exact ⟨N0, KP0, A_a1, ⟨⟨hv, ⟨hn1.1, by have := hn1.2; omega⟩⟩, Or.inl rfl⟩⟩)
          · skip
            refine Go.step (fun _ k => XS.icmpYes X0.here hx rfl (pc0 := 264) (pc' := 287) rfl (hb hby at_264) rfl (feq u4).2 (by decide) (by decide) k) ?_
            show Go p e below _ (T.setTop (mkF m 287 #[s0, s1, s2, vI p3, s4, s5, vI pt, vI ed, vI c1, vR a1, vI n1, s11, vU] []))
            exact hgo _ _ (vU) (n1) (vs) X0 (by rw [e0]; exact ⟨N0, KP0, A_a1, ⟨⟨hv, ⟨hn1.1, by have := hn1.2; omega⟩⟩, Or.inl rfl⟩⟩)
      · skip
        refine Go.step (fun _ k => XS.icmpYes X0.here hx rfl (pc0 := 244) (pc' := 261) rfl (hb hby at_244) rfl (feq u2).2 (by decide) (by decide) k) ?_
        show Go p e below _ (T.setTop (mkF m 261 #[s0, s1, s2, vI p3, s4, s5, vI pt, vI ed, vI c1, vR a1, vI n1, s11, vU] []))
        refine Go.step (fun _ k => XS.iload X0.here hx rfl (hb hby at_261) rfl  k) ?_
        refine Go.step (fun _ k => XS.iconst X0.here hx rfl (hb hby at_263) k) ?_
        show Go p e below _ (T.setTop (mkF m 264 #[s0, s1, s2, vI p3, s4, s5, vI pt, vI ed, vI c1, vR a1, vI n1, s11, vU] [(.int (2 : Int32)), (.int ed)]))
        by_cases u4 : ed = (2 : Int32)
        · skip
          refine Go.step (fun _ k => XS.icmpNo X0.here hx rfl (hb hby at_264) rfl (teq u4).2 k) ?_
          show Go p e below _ (T.setTop (mkF m 267 #[s0, s1, s2, vI p3, s4, s5, vI pt, vI ed, vI c1, vR a1, vI n1, s11, vU] []))
          refine Go.step (fun _ k => XS.iload X0.here hx rfl (hb hby at_267) rfl  k) ?_
          refine Go.step (fun _ k => XS.bipush X0.here hx rfl (hb hby at_269) k) ?_
          show Go p e below _ (T.setTop (mkF m 271 #[s0, s1, s2, vI p3, s4, s5, vI pt, vI ed, vI c1, vR a1, vI n1, s11, vU] [(.int (8 : Int32)), (.int n1)]))
          by_cases u5 : n1 < (8 : Int32)
          · skip
            refine Go.step (fun _ k => XS.icmpNo X0.here hx rfl (hb hby at_271) rfl (tlt u5).2.1 k) ?_
            show Go p e below _ (T.setTop (mkF m 274 #[s0, s1, s2, vI p3, s4, s5, vI pt, vI ed, vI c1, vR a1, vI n1, s11, vU] []))
            refine Go.step (fun _ k => XS.aload X0.here hx rfl (hb hby at_274) rfl rfl k) ?_
            refine Go.step (fun _ k => XS.iload X0.here hx rfl (hb hby at_276) rfl  k) ?_
            refine Go.step (fun _ k => XS.iload X0.here hx rfl (hb hby at_278) rfl  k) ?_
            show Go p e below _ (T.setTop (mkF m 280 #[s0, s1, s2, vI p3, s4, s5, vI pt, vI ed, vI c1, vR a1, vI n1, s11, vU] [(.int c1), (.int n1), (.ref a1)]))
            obtain ⟨vt382, e_vt382⟩ : ∃ z, z = (vs.set (n1).toNatClampNeg c1) := ⟨_, rfl⟩
            have hv_vt382 : vt382.length = 8 ∧ ∀ c ∈ vt382, ¬ c < 0 ∧ ¬ (255 : Int32) < c := by rw [e_vt382]; exact ⟨by rw [List.length_set]; exact hv.1, set_lat hv.2 l_c1⟩
            have cp384 := A_a1
            obtain ⟨cl_383, Ar_383, ck_383, Sz_383, Ng_383, Hs_383, Gs_383⟩ := cp384
            have hin_383 : ¬ (n1 < 0 ∨ cl_383.slots.size ≤ (n1).toNatClampNeg) := inb_of Sz_383 (inb8 ⟨hn1.1, by have := hn1.2; omega⟩)
            obtain ⟨T_383, h_383, X_383, e_383, W_383, st_383⟩ := stC X0 hx hZ e0 Ar_383 (j := n1) hin_383 (g := (mkF m 280 #[s0, s1, s2, vI p3, s4, s5, vI pt, vI ed, vI c1, vR a1, vI n1, s11, vU] [(.int c1), (.int n1), (.ref a1)])) rfl rfl (hb hby at_280)
            refine Go.step st_383 ?_
            have N_383 := Fr.snoc X_383 N0 g_a1
            have le_383 : h0.size ≤ h_383.size := Nat.le_of_eq W_383.size.symm
            have KP_383 := KP0.wr W_383 (Or.inl (List.mem_of_getElem? (i := 0) rfl))
            have O_383 := hO.wr W_383 g_a1
            have V_383 : Arv Z h_383 a1 k1 .char (8 : Int32) (vt382.map Value.int) (.int (0 : Int32)) := by
              have q := Arv.set Ar_383 ck_383 Sz_383 Ng_383 Hs_383 Gs_383 (fits_nar_char _) W_383 (n1).toNatClampNeg rfl (by rw [List.length_map, hv.1]; exact in8 ⟨hn1.1, by have := hn1.2; omega⟩)
              rw [nar_lat l_c1, ← List.map_set, ← e_vt382] at q; exact q
            show Go p e below _ (T_383.setTop (mkF m 281 #[s0, s1, s2, vI p3, s4, s5, vI pt, vI ed, vI c1, vR a1, vI n1, s11, vU] []))
            refine Go.step (fun _ k => XS.iload X_383.here hx rfl (hb hby at_281) rfl  k) ?_
            refine Go.step (fun _ k => XS.iconst X_383.here hx rfl (hb hby at_283) k) ?_
            show Go p e below _ (T_383.setTop (mkF m 284 #[s0, s1, s2, vI p3, s4, s5, vI pt, vI ed, vI c1, vR a1, vI n1, s11, vU] [(.int (1 : Int32)), (.int n1)]))
            refine Go.step (fun _ k => XS.iadd X_383.here hx rfl (hb hby at_284) rfl k) ?_
            show Go p e below _ (T_383.setTop (mkF m 285 #[s0, s1, s2, vI p3, s4, s5, vI pt, vI ed, vI c1, vR a1, vI n1, s11, vU] [(.int (n1 + (1 : Int32)))]))
            refine Go.step (fun _ k => XS.istore X_383.here hx rfl (hb hby at_285) rfl (l' := #[s0, s1, s2, vI p3, s4, s5, vI pt, vI ed, vI c1, vR a1, vI (n1 + (1 : Int32)), s11, vU]) rfl k) ?_
            show Go p e below _ (T_383.setTop (mkF m 287 #[s0, s1, s2, vI p3, s4, s5, vI pt, vI ed, vI c1, vR a1, vI (n1 + (1 : Int32)), s11, vU] []))
            exact hgo _ _ (vU) ((n1 + (1 : Int32))) (vt382) X_383 (by rw [e_383]; exact ⟨N_383, KP_383, V_383, ⟨⟨hv_vt382, (n_add hn1)⟩, Or.inl rfl⟩⟩)
          · skip
            refine Go.step (fun _ k => XS.icmpYes X0.here hx rfl (pc0 := 271) (pc' := 287) rfl (hb hby at_271) rfl (flt u5).2.1 (by decide) (by decide) k) ?_
            show Go p e below _ (T.setTop (mkF m 287 #[s0, s1, s2, vI p3, s4, s5, vI pt, vI ed, vI c1, vR a1, vI n1, s11, vU] []))
            exact hgo _ _ (vU) (n1) (vs) X0 (by rw [e0]; exact ⟨N0, KP0, A_a1, ⟨⟨hv, ⟨hn1.1, by have := hn1.2; omega⟩⟩, Or.inl rfl⟩⟩)
        · skip
          refine Go.step (fun _ k => XS.icmpYes X0.here hx rfl (pc0 := 264) (pc' := 287) rfl (hb hby at_264) rfl (feq u4).2 (by decide) (by decide) k) ?_
          show Go p e below _ (T.setTop (mkF m 287 #[s0, s1, s2, vI p3, s4, s5, vI pt, vI ed, vI c1, vR a1, vI n1, s11, vU] []))
          exact hgo _ _ (vU) (n1) (vs) X0 (by rw [e0]; exact ⟨N0, KP0, A_a1, ⟨⟨hv, ⟨hn1.1, by have := hn1.2; omega⟩⟩, Or.inl rfl⟩⟩)
--@E
--@C law
def Q_law (Z : State) (zc : Int32) (va : Addr) (kv : ClassId) (ea : Addr) (eb : Addr) (wa : Addr) (wb : Addr) (p0 : Int32) (p1 : Int64) (p2 : Int32) (p3 : Int32) (h0 : Heap) (n0 : Nat) (v : Option Value) (h : Heap) (L : List Loc) : Prop := v = some (.int (1 : Int32)) ∧ Fr n0 L
set_option maxRecDepth 65536 in
set_option maxHeartbeats 40000000 in
theorem rm_law (l : Launch) (Z : State) (a0 : Array Value) (hw : ∀ d ∈ tables_1, d.before a0 Z = true) (zc : Int32) (va : Addr) (kv : ClassId) (ea : Addr) (eb : Addr) (wa : Addr) (wb : Addr) (p0 : Int32) (p1 : Int64) (p2 : Int32) (p3 : Int32) (h0 : Heap) (n0 : Nat) (Z0 : n0 ≤ h0.size) (hSt : St Z zc va kv ea eb wa wb) (hO : Old Z n0 h0) :
    CW l Z EL x (Jvm.Cond.code x code maxLocals ret :: tables_1) room_1 #[(.int p0), (.long p1), (.int p2), (.int p3)] h0 (Q_law Z zc va kv ea eb wa wb p0 p1 p2 p3 h0 n0) := by
  refine CW.of (L0 := #[vI p0, vJ p1, .second, vI p2, vI p3, vU, vU, vU, vU, vU, vU, vU, vU]) (plainFor_of_name pn_2) (fun m => by first | (simp [entryFrame, mkF, argsToLocals, Value.category, maxLocals]; done) | rfl) ?_
  intro p e s m below meth c s₁ hx hby hml hret hlk hZ hown hnm X0 e0 hS0 hk0 CV0 hh0
  have hEL := hEL_ (a0 := a0) hw
  have hwS := hwS_ hw
  have N0 := Fr.nil n0
  have KP0 := Keep.refl h0 []
  have hSt_ := hSt
  obtain ⟨S_cs, n_cs, S_va, E_va, A_va, S_ea, F_ea, S_wa, S_eb, F_eb, S_wb⟩ := hSt_
  show Go p e below _ (s₁.setTop (mkF m 0 #[vI p0, vJ p1, .second, vI p2, vI p3, vU, vU, vU, vU, vU, vU, vU, vU] []))
  refine Go.step (fun _ k => XS.iloadN X0.here hx rfl (hb hby at_0) rfl  k) ?_
  refine Go.step (fun _ k => XS.iconst X0.here hx rfl (hb hby at_1) k) ?_
  show Go p e below _ (s₁.setTop (mkF m 2 #[vI p0, vJ p1, .second, vI p2, vI p3, vU, vU, vU, vU, vU, vU, vU, vU] [(.int (3 : Int32)), (.int p0)]))
  refine Go.step (fun _ k => XS.iand X0.here hx rfl (hb hby at_2) rfl k) ?_
  show Go p e below _ (s₁.setTop (mkF m 3 #[vI p0, vJ p1, .second, vI p2, vI p3, vU, vU, vU, vU, vU, vU, vU, vU] [(.int (p0 &&& (3 : Int32)))]))
  refine Go.step (fun _ k => XS.istore X0.here hx rfl (hb hby at_3) rfl (l' := #[vI p0, vJ p1, .second, vI p2, vI p3, vI (p0 &&& (3 : Int32)), vU, vU, vU, vU, vU, vU, vU]) rfl k) ?_
  show Go p e below _ (s₁.setTop (mkF m 5 #[vI p0, vJ p1, .second, vI p2, vI p3, vI (p0 &&& (3 : Int32)), vU, vU, vU, vU, vU, vU, vU] []))
  obtain ⟨kk, h_kk⟩ : ∃ z, z = (p0 &&& (3 : Int32)) := ⟨_, rfl⟩
  rw [← h_kk]
  show Go p e below _ (s₁.setTop (mkF m 5 #[vI p0, vJ p1, .second, vI p2, vI p3, vI kk, vU, vU, vU, vU, vU, vU, vU] []))
  have h_k4 : kk = 0 ∨ kk = 1 ∨ kk = 2 ∨ kk = 3 := by rw [h_kk]; exact range4 _
  clear h_kk
  show Go p e below _ (s₁.setTop (mkF m 5 #[vI p0, vJ p1, .second, vI p2, vI p3, vI kk, vU, vU, vU, vU, vU, vU, vU] []))
  refine Go.step (fun _ k => XS.iloadN X0.here hx rfl (hb hby at_5) rfl  k) ?_
  refine Go.step (fun _ k => XS.iconst X0.here hx rfl (hb hby at_6) k) ?_
  show Go p e below _ (s₁.setTop (mkF m 7 #[vI p0, vJ p1, .second, vI p2, vI p3, vI kk, vU, vU, vU, vU, vU, vU, vU] [(.int (2 : Int32)), (.int p0)]))
  refine Go.step (fun _ k => XS.iushr X0.here hx rfl (hb hby at_7) rfl k) ?_
  show Go p e below _ (s₁.setTop (mkF m 8 #[vI p0, vJ p1, .second, vI p2, vI p3, vI kk, vU, vU, vU, vU, vU, vU, vU] [(.int ((p0.toUInt32 >>> ((2 : Int32) &&& 31).toUInt32).toInt32))]))
  refine Go.step (fun _ k => XS.iconst X0.here hx rfl (hb hby at_8) k) ?_
  show Go p e below _ (s₁.setTop (mkF m 9 #[vI p0, vJ p1, .second, vI p2, vI p3, vI kk, vU, vU, vU, vU, vU, vU, vU] [(.int (1 : Int32)), (.int ((p0.toUInt32 >>> ((2 : Int32) &&& 31).toUInt32).toInt32))]))
  refine Go.step (fun _ k => XS.iand X0.here hx rfl (hb hby at_9) rfl k) ?_
  show Go p e below _ (s₁.setTop (mkF m 10 #[vI p0, vJ p1, .second, vI p2, vI p3, vI kk, vU, vU, vU, vU, vU, vU, vU] [(.int (((p0.toUInt32 >>> ((2 : Int32) &&& 31).toUInt32).toInt32) &&& (1 : Int32)))]))
  refine own_joinA (P := fun (pt : Int32) => True) (t := fun (pt : Int32) => s₁.setTop (mkF m 18 #[vI p0, vJ p1, .second, vI p2, vI p3, vI kk, vU, vU, vU, vU, vU, vU, vU] [(.int pt)])) (fun J385 => ?_) ?_
  · skip
    by_cases b0 : (((p0.toUInt32 >>> ((2 : Int32) &&& 31).toUInt32).toInt32) &&& (1 : Int32)) = (0 : Int32)
    · skip
      refine Go.step (fun _ k => XS.ifYes X0.here hx rfl (pc0 := 10) (pc' := 17) rfl (hb hby at_10) rfl ((if0 _ _).trans (teq b0).1) (by decide) (by decide) k) ?_
      show Go p e below _ (s₁.setTop (mkF m 17 #[vI p0, vJ p1, .second, vI p2, vI p3, vI kk, vU, vU, vU, vU, vU, vU, vU] []))
      refine Go.step (fun _ k => XS.iconst X0.here hx rfl (hb hby at_17) k) ?_
      show Go p e below _ (s₁.setTop (mkF m 18 #[vI p0, vJ p1, .second, vI p2, vI p3, vI kk, vU, vU, vU, vU, vU, vU, vU] [(.int (0 : Int32))]))
      exact J385 _ trivial
    · skip
      refine Go.step (fun _ k => XS.ifNo X0.here hx rfl (hb hby at_10) rfl ((if0 _ _).trans (feq b0).1) k) ?_
      show Go p e below _ (s₁.setTop (mkF m 13 #[vI p0, vJ p1, .second, vI p2, vI p3, vI kk, vU, vU, vU, vU, vU, vU, vU] []))
      refine Go.step (fun _ k => XS.iconst X0.here hx rfl (hb hby at_13) k) ?_
      show Go p e below _ (s₁.setTop (mkF m 14 #[vI p0, vJ p1, .second, vI p2, vI p3, vI kk, vU, vU, vU, vU, vU, vU, vU] [(.int (1 : Int32))]))
      refine Go.step (fun _ k => XS.goto X0.here hx rfl (pc0 := 14) (pc' := 18) rfl (hb hby at_14) (by decide) (by decide) k) ?_
      show Go p e below _ (s₁.setTop (mkF m 18 #[vI p0, vJ p1, .second, vI p2, vI p3, vI kk, vU, vU, vU, vU, vU, vU, vU] [(.int (1 : Int32))]))
      exact J385 _ trivial
  · skip
    intro pt h_pt
    have h_pt : True := h_pt
    show Go p e below _ (s₁.setTop (mkF m 18 #[vI p0, vJ p1, .second, vI p2, vI p3, vI kk, vU, vU, vU, vU, vU, vU, vU] [(.int pt)]))
    refine Go.step (fun _ k => XS.istore X0.here hx rfl (hb hby at_18) rfl (l' := #[vI p0, vJ p1, .second, vI p2, vI p3, vI kk, vI pt, vU, vU, vU, vU, vU, vU]) rfl k) ?_
    show Go p e below _ (s₁.setTop (mkF m 20 #[vI p0, vJ p1, .second, vI p2, vI p3, vI kk, vI pt, vU, vU, vU, vU, vU, vU] []))
    refine Go.step (fun _ k => XS.iloadN X0.here hx rfl (hb hby at_20) rfl  k) ?_
    refine Go.step (fun _ k => XS.iconst X0.here hx rfl (hb hby at_21) k) ?_
    show Go p e below _ (s₁.setTop (mkF m 22 #[vI p0, vJ p1, .second, vI p2, vI p3, vI kk, vI pt, vU, vU, vU, vU, vU, vU] [(.int (3 : Int32)), (.int p0)]))
    refine Go.step (fun _ k => XS.iushr X0.here hx rfl (hb hby at_22) rfl k) ?_
    show Go p e below _ (s₁.setTop (mkF m 23 #[vI p0, vJ p1, .second, vI p2, vI p3, vI kk, vI pt, vU, vU, vU, vU, vU, vU] [(.int ((p0.toUInt32 >>> ((3 : Int32) &&& 31).toUInt32).toInt32))]))
    refine Go.step (fun _ k => XS.iconst X0.here hx rfl (hb hby at_23) k) ?_
    show Go p e below _ (s₁.setTop (mkF m 24 #[vI p0, vJ p1, .second, vI p2, vI p3, vI kk, vI pt, vU, vU, vU, vU, vU, vU] [(.int (3 : Int32)), (.int ((p0.toUInt32 >>> ((3 : Int32) &&& 31).toUInt32).toInt32))]))
    refine Go.step (fun _ k => XS.iand X0.here hx rfl (hb hby at_24) rfl k) ?_
    show Go p e below _ (s₁.setTop (mkF m 25 #[vI p0, vJ p1, .second, vI p2, vI p3, vI kk, vI pt, vU, vU, vU, vU, vU, vU] [(.int (((p0.toUInt32 >>> ((3 : Int32) &&& 31).toUInt32).toInt32) &&& (3 : Int32)))]))
    refine Go.step (fun _ k => XS.istore X0.here hx rfl (hb hby at_25) rfl (l' := #[vI p0, vJ p1, .second, vI p2, vI p3, vI kk, vI pt, vI (((p0.toUInt32 >>> ((3 : Int32) &&& 31).toUInt32).toInt32) &&& (3 : Int32)), vU, vU, vU, vU, vU]) rfl k) ?_
    show Go p e below _ (s₁.setTop (mkF m 27 #[vI p0, vJ p1, .second, vI p2, vI p3, vI kk, vI pt, vI (((p0.toUInt32 >>> ((3 : Int32) &&& 31).toUInt32).toInt32) &&& (3 : Int32)), vU, vU, vU, vU, vU] []))
    obtain ⟨ed, h_ed⟩ : ∃ z, z = (((p0.toUInt32 >>> ((3 : Int32) &&& 31).toUInt32).toInt32) &&& (3 : Int32)) := ⟨_, rfl⟩
    rw [← h_ed]
    show Go p e below _ (s₁.setTop (mkF m 27 #[vI p0, vJ p1, .second, vI p2, vI p3, vI kk, vI pt, vI ed, vU, vU, vU, vU, vU] []))
    refine Go.step (fun _ k => XS.iloadN X0.here hx rfl (hb hby at_27) rfl  k) ?_
    refine Go.step (fun _ k => XS.bipush X0.here hx rfl (hb hby at_28) k) ?_
    show Go p e below _ (s₁.setTop (mkF m 30 #[vI p0, vJ p1, .second, vI p2, vI p3, vI kk, vI pt, vI ed, vU, vU, vU, vU, vU] [(.int (8 : Int32)), (.int p0)]))
    refine Go.step (fun _ k => XS.iushr X0.here hx rfl (hb hby at_30) rfl k) ?_
    show Go p e below _ (s₁.setTop (mkF m 31 #[vI p0, vJ p1, .second, vI p2, vI p3, vI kk, vI pt, vI ed, vU, vU, vU, vU, vU] [(.int ((p0.toUInt32 >>> ((8 : Int32) &&& 31).toUInt32).toInt32))]))
    refine Go.step (fun _ k => XS.sipush X0.here hx rfl (hb hby at_31) k) ?_
    show Go p e below _ (s₁.setTop (mkF m 34 #[vI p0, vJ p1, .second, vI p2, vI p3, vI kk, vI pt, vI ed, vU, vU, vU, vU, vU] [(.int (255 : Int32)), (.int ((p0.toUInt32 >>> ((8 : Int32) &&& 31).toUInt32).toInt32))]))
    refine Go.step (fun _ k => XS.iand X0.here hx rfl (hb hby at_34) rfl k) ?_
    show Go p e below _ (s₁.setTop (mkF m 35 #[vI p0, vJ p1, .second, vI p2, vI p3, vI kk, vI pt, vI ed, vU, vU, vU, vU, vU] [(.int (((p0.toUInt32 >>> ((8 : Int32) &&& 31).toUInt32).toInt32) &&& (255 : Int32)))]))
    refine Go.step (fun _ k => XS.i2c X0.here hx rfl (hb hby at_35) rfl k) ?_
    show Go p e below _ (s₁.setTop (mkF m 36 #[vI p0, vJ p1, .second, vI p2, vI p3, vI kk, vI pt, vI ed, vU, vU, vU, vU, vU] [(.int (nar .char (((p0.toUInt32 >>> ((8 : Int32) &&& 31).toUInt32).toInt32) &&& (255 : Int32))))]))
    refine own_top (congrArg Value.int (show (nar .char (((p0.toUInt32 >>> ((8 : Int32) &&& 31).toUInt32).toInt32) &&& (255 : Int32))) = (((p0.toUInt32 >>> ((8 : Int32) &&& 31).toUInt32).toInt32) &&& (255 : Int32)) from nar255 _)) ?_
    show Go p e below _ (s₁.setTop (mkF m 36 #[vI p0, vJ p1, .second, vI p2, vI p3, vI kk, vI pt, vI ed, vU, vU, vU, vU, vU] [(.int (((p0.toUInt32 >>> ((8 : Int32) &&& 31).toUInt32).toInt32) &&& (255 : Int32)))]))
    refine Go.step (fun _ k => XS.istore X0.here hx rfl (hb hby at_36) rfl (l' := #[vI p0, vJ p1, .second, vI p2, vI p3, vI kk, vI pt, vI ed, vI (((p0.toUInt32 >>> ((8 : Int32) &&& 31).toUInt32).toInt32) &&& (255 : Int32)), vU, vU, vU, vU]) rfl k) ?_
    show Go p e below _ (s₁.setTop (mkF m 38 #[vI p0, vJ p1, .second, vI p2, vI p3, vI kk, vI pt, vI ed, vI (((p0.toUInt32 >>> ((8 : Int32) &&& 31).toUInt32).toInt32) &&& (255 : Int32)), vU, vU, vU, vU] []))
    obtain ⟨cc, h_cc⟩ : ∃ z, z = (((p0.toUInt32 >>> ((8 : Int32) &&& 31).toUInt32).toInt32) &&& (255 : Int32)) := ⟨_, rfl⟩
    rw [← h_cc]
    show Go p e below _ (s₁.setTop (mkF m 38 #[vI p0, vJ p1, .second, vI p2, vI p3, vI kk, vI pt, vI ed, vI cc, vU, vU, vU, vU] []))
    have l_c : ¬ cc < 0 ∧ ¬ (255 : Int32) < cc := by rw [h_cc]; exact lat255 _
    show Go p e below _ (s₁.setTop (mkF m 38 #[vI p0, vJ p1, .second, vI p2, vI p3, vI kk, vI pt, vI ed, vI cc, vU, vU, vU, vU] []))
    refine Go.step (fun _ k => XS.bipush X0.here hx rfl (hb hby at_38) k) ?_
    show Go p e below _ (s₁.setTop (mkF m 40 #[vI p0, vJ p1, .second, vI p2, vI p3, vI kk, vI pt, vI ed, vI cc, vU, vU, vU, vU] [(.int (8 : Int32))]))
    obtain ⟨T_386, h_386, k_386, X_386, e_386, E_386, A_386, st_386⟩ := newP X0 hx hZ (aty := .char) (wd_0 hw) e0 (g := (mkF m 40 #[vI p0, vJ p1, .second, vI p2, vI p3, vI kk, vI pt, vI ed, vI cc, vU, vU, vU, vU] [(.int (8 : Int32))])) rfl (hb hby at_40) rfl (by decide) (cap := 8) (by decide) (by decide) (by decide) (by decide)
    obtain ⟨b386, q_386⟩ : ∃ z, z = h0.size := ⟨_, rfl⟩
    rw [← q_386] at A_386 st_386
    refine Go.step st_386 ?_
    have C_386 := CHr.ext E_386 CV0
    have CR_386 := CHr.trans (CHr.refl CV0) C_386
    have le_386 : h0.size ≤ h_386.size := E_386.1
    have KP_386 := KP0.ext E_386
    have O_386 := hO.ext E_386
    have ge_386 : h0.size ≤ b386 := Nat.le_of_eq q_386.symm
    have sz_b386 : h0.size ≤ b386 := Nat.le_trans (Nat.le_refl _) ge_386
    have g_b386 : n0 ≤ b386 := Nat.le_trans Z0 sz_b386
    have V_386 : Arv Z h_386 b386 k_386 .char (8 : Int32) [(.int (0 : Int32)), (.int (0 : Int32)), (.int (0 : Int32)), (.int (0 : Int32)), (.int (0 : Int32)), (.int (0 : Int32)), (.int (0 : Int32)), (.int (0 : Int32))] (.int (0 : Int32)) := (Arv.new A_386 (by decide)).pad (pad_rep [] (.int (0 : Int32)) 8)
    have Sf_b386 := Safe.ext E_386 CV0 (Safe.new ge_386)
    show Go p e below _ (T_386.setTop (mkF m 42 #[vI p0, vJ p1, .second, vI p2, vI p3, vI kk, vI pt, vI ed, vI cc, vU, vU, vU, vU] [(.ref b386)]))
    refine Go.step (fun _ k => XS.astore X_386.here hx rfl (hb hby at_42) rfl rfl (l' := #[vI p0, vJ p1, .second, vI p2, vI p3, vI kk, vI pt, vI ed, vI cc, vR b386, vU, vU, vU]) rfl k) ?_
    show Go p e below _ (T_386.setTop (mkF m 44 #[vI p0, vJ p1, .second, vI p2, vI p3, vI kk, vI pt, vI ed, vI cc, vR b386, vU, vU, vU] []))
    rcases h_k4 with rfl | rfl | rfl | rfl
    · skip
      show Go p e below _ (T_386.setTop (mkF m 44 #[vI p0, vJ p1, .second, vI p2, vI p3, vI 0, vI pt, vI ed, vI cc, vR b386, vU, vU, vU] []))
      refine Go.step (fun _ k => XS.iload X_386.here hx rfl (hb hby at_44) rfl  k) ?_
      show Go p e below _ (T_386.setTop (mkF m 46 #[vI p0, vJ p1, .second, vI p2, vI p3, vI 0, vI pt, vI ed, vI cc, vR b386, vU, vU, vU] [(.int (0 : Int32))]))
      refine Go.step (fun _ k => XS.ifNo X_386.here hx rfl (hb hby at_46) rfl ((if0 _ _).trans (teq ((by decide) : (0 : Int32) = (0 : Int32))).2) k) ?_
      show Go p e below _ (T_386.setTop (mkF m 49 #[vI p0, vJ p1, .second, vI p2, vI p3, vI 0, vI pt, vI ed, vI cc, vR b386, vU, vU, vU] []))
      refine Go.step (fun _ k => XS.aload X_386.here hx rfl (hb hby at_49) rfl rfl k) ?_
      refine Go.step (fun _ k => XS.iconst X_386.here hx rfl (hb hby at_51) k) ?_
      refine Go.step (fun _ k => XS.bipush X_386.here hx rfl (hb hby at_52) k) ?_
      show Go p e below _ (T_386.setTop (mkF m 54 #[vI p0, vJ p1, .second, vI p2, vI p3, vI 0, vI pt, vI ed, vI cc, vR b386, vU, vU, vU] [(.int (100 : Int32)), (.int (0 : Int32)), (.ref b386)]))
      have cp388 := V_386
      obtain ⟨cl_387, Ar_387, ck_387, Sz_387, Ng_387, Hs_387, Gs_387⟩ := cp388
      have hin_387 : ¬ ((0 : Int32) < 0 ∨ cl_387.slots.size ≤ ((0 : Int32)).toNatClampNeg) := inb_of Sz_387 ⟨by decide, by decide⟩
      obtain ⟨T_387, h_387, X_387, e_387, W_387, st_387⟩ := stC X_386 hx hZ e_386 Ar_387 (j := (0 : Int32)) hin_387 (g := (mkF m 54 #[vI p0, vJ p1, .second, vI p2, vI p3, vI 0, vI pt, vI ed, vI cc, vR b386, vU, vU, vU] [(.int (100 : Int32)), (.int (0 : Int32)), (.ref b386)])) rfl rfl (hb hby at_54)
      refine Go.step st_387 ?_
      have N_387 := Fr.snoc X_387 N0 g_b386
      have C_387 := CHr.wr W_387 (Safe.arv hZ.alike V_386 (by decide)) C_386.1
      have CR_387 := CHr.trans CR_386 C_387
      have le_387 : h_386.size ≤ h_387.size := Nat.le_of_eq W_387.size.symm
      have KP_387 := KP_386.wr W_387 (Or.inr sz_b386)
      have O_387 := O_386.wr W_387 g_b386
      have V_387 : Arv Z h_387 b386 k_386 .char (8 : Int32) [(.int (100 : Int32)), (.int (0 : Int32)), (.int (0 : Int32)), (.int (0 : Int32)), (.int (0 : Int32)), (.int (0 : Int32)), (.int (0 : Int32)), (.int (0 : Int32))] (.int (0 : Int32)) := by
        have q := Arv.set Ar_387 ck_387 Sz_387 Ng_387 Hs_387 Gs_387 (fits_nar_char _) W_387 0 rfl (Nat.le_of_ble_eq_true rfl)
        rw [show nar .char (100 : Int32) = (100 : Int32) from by decide] at q; exact q
      show Go p e below _ (T_387.setTop (mkF m 55 #[vI p0, vJ p1, .second, vI p2, vI p3, vI 0, vI pt, vI ed, vI cc, vR b386, vU, vU, vU] []))
      refine Go.step (fun _ k => XS.aload X_387.here hx rfl (hb hby at_55) rfl rfl k) ?_
      refine Go.step (fun _ k => XS.iconst X_387.here hx rfl (hb hby at_57) k) ?_
      refine Go.step (fun _ k => XS.bipush X_387.here hx rfl (hb hby at_58) k) ?_
      show Go p e below _ (T_387.setTop (mkF m 60 #[vI p0, vJ p1, .second, vI p2, vI p3, vI 0, vI pt, vI ed, vI cc, vR b386, vU, vU, vU] [(.int (101 : Int32)), (.int (1 : Int32)), (.ref b386)]))
      have cp390 := V_387
      obtain ⟨cl_389, Ar_389, ck_389, Sz_389, Ng_389, Hs_389, Gs_389⟩ := cp390
      have hin_389 : ¬ ((1 : Int32) < 0 ∨ cl_389.slots.size ≤ ((1 : Int32)).toNatClampNeg) := inb_of Sz_389 ⟨by decide, by decide⟩
      obtain ⟨T_389, h_389, X_389, e_389, W_389, st_389⟩ := stC X_387 hx hZ e_387 Ar_389 (j := (1 : Int32)) hin_389 (g := (mkF m 60 #[vI p0, vJ p1, .second, vI p2, vI p3, vI 0, vI pt, vI ed, vI cc, vR b386, vU, vU, vU] [(.int (101 : Int32)), (.int (1 : Int32)), (.ref b386)])) rfl rfl (hb hby at_60)
      refine Go.step st_389 ?_
      have N_389 := Fr.snoc X_389 N_387 g_b386
      have C_389 := CHr.wr W_389 (Safe.arv hZ.alike V_387 (by decide)) C_387.1
      have CR_389 := CHr.trans CR_387 C_389
      have le_389 : h_387.size ≤ h_389.size := Nat.le_of_eq W_389.size.symm
      have KP_389 := KP_387.wr W_389 (Or.inr sz_b386)
      have O_389 := O_387.wr W_389 g_b386
      have V_389 : Arv Z h_389 b386 k_386 .char (8 : Int32) [(.int (100 : Int32)), (.int (101 : Int32)), (.int (0 : Int32)), (.int (0 : Int32)), (.int (0 : Int32)), (.int (0 : Int32)), (.int (0 : Int32)), (.int (0 : Int32))] (.int (0 : Int32)) := by
        have q := Arv.set Ar_389 ck_389 Sz_389 Ng_389 Hs_389 Gs_389 (fits_nar_char _) W_389 1 rfl (Nat.le_of_ble_eq_true rfl)
        rw [show nar .char (101 : Int32) = (101 : Int32) from by decide] at q; exact q
      show Go p e below _ (T_389.setTop (mkF m 61 #[vI p0, vJ p1, .second, vI p2, vI p3, vI 0, vI pt, vI ed, vI cc, vR b386, vU, vU, vU] []))
      refine Go.step (fun _ k => XS.aload X_389.here hx rfl (hb hby at_61) rfl rfl k) ?_
      refine Go.step (fun _ k => XS.iconst X_389.here hx rfl (hb hby at_63) k) ?_
      refine Go.step (fun _ k => XS.bipush X_389.here hx rfl (hb hby at_64) k) ?_
      show Go p e below _ (T_389.setTop (mkF m 66 #[vI p0, vJ p1, .second, vI p2, vI p3, vI 0, vI pt, vI ed, vI cc, vR b386, vU, vU, vU] [(.int (98 : Int32)), (.int (2 : Int32)), (.ref b386)]))
      have cp392 := V_389
      obtain ⟨cl_391, Ar_391, ck_391, Sz_391, Ng_391, Hs_391, Gs_391⟩ := cp392
      have hin_391 : ¬ ((2 : Int32) < 0 ∨ cl_391.slots.size ≤ ((2 : Int32)).toNatClampNeg) := inb_of Sz_391 ⟨by decide, by decide⟩
      obtain ⟨T_391, h_391, X_391, e_391, W_391, st_391⟩ := stC X_389 hx hZ e_389 Ar_391 (j := (2 : Int32)) hin_391 (g := (mkF m 66 #[vI p0, vJ p1, .second, vI p2, vI p3, vI 0, vI pt, vI ed, vI cc, vR b386, vU, vU, vU] [(.int (98 : Int32)), (.int (2 : Int32)), (.ref b386)])) rfl rfl (hb hby at_66)
      refine Go.step st_391 ?_
      have N_391 := Fr.snoc X_391 N_389 g_b386
      have C_391 := CHr.wr W_391 (Safe.arv hZ.alike V_389 (by decide)) C_389.1
      have CR_391 := CHr.trans CR_389 C_391
      have le_391 : h_389.size ≤ h_391.size := Nat.le_of_eq W_391.size.symm
      have KP_391 := KP_389.wr W_391 (Or.inr sz_b386)
      have O_391 := O_389.wr W_391 g_b386
      have V_391 : Arv Z h_391 b386 k_386 .char (8 : Int32) [(.int (100 : Int32)), (.int (101 : Int32)), (.int (98 : Int32)), (.int (0 : Int32)), (.int (0 : Int32)), (.int (0 : Int32)), (.int (0 : Int32)), (.int (0 : Int32))] (.int (0 : Int32)) := by
        have q := Arv.set Ar_391 ck_391 Sz_391 Ng_391 Hs_391 Gs_391 (fits_nar_char _) W_391 2 rfl (Nat.le_of_ble_eq_true rfl)
        rw [show nar .char (98 : Int32) = (98 : Int32) from by decide] at q; exact q
      show Go p e below _ (T_391.setTop (mkF m 67 #[vI p0, vJ p1, .second, vI p2, vI p3, vI 0, vI pt, vI ed, vI cc, vR b386, vU, vU, vU] []))
      refine Go.step (fun _ k => XS.aload X_391.here hx rfl (hb hby at_67) rfl rfl k) ?_
      refine Go.step (fun _ k => XS.iconst X_391.here hx rfl (hb hby at_69) k) ?_
      refine Go.step (fun _ k => XS.bipush X_391.here hx rfl (hb hby at_70) k) ?_
      show Go p e below _ (T_391.setTop (mkF m 72 #[vI p0, vJ p1, .second, vI p2, vI p3, vI 0, vI pt, vI ed, vI cc, vR b386, vU, vU, vU] [(.int (105 : Int32)), (.int (3 : Int32)), (.ref b386)]))
      have cp394 := V_391
      obtain ⟨cl_393, Ar_393, ck_393, Sz_393, Ng_393, Hs_393, Gs_393⟩ := cp394
      have hin_393 : ¬ ((3 : Int32) < 0 ∨ cl_393.slots.size ≤ ((3 : Int32)).toNatClampNeg) := inb_of Sz_393 ⟨by decide, by decide⟩
      obtain ⟨T_393, h_393, X_393, e_393, W_393, st_393⟩ := stC X_391 hx hZ e_391 Ar_393 (j := (3 : Int32)) hin_393 (g := (mkF m 72 #[vI p0, vJ p1, .second, vI p2, vI p3, vI 0, vI pt, vI ed, vI cc, vR b386, vU, vU, vU] [(.int (105 : Int32)), (.int (3 : Int32)), (.ref b386)])) rfl rfl (hb hby at_72)
      refine Go.step st_393 ?_
      have N_393 := Fr.snoc X_393 N_391 g_b386
      have C_393 := CHr.wr W_393 (Safe.arv hZ.alike V_391 (by decide)) C_391.1
      have CR_393 := CHr.trans CR_391 C_393
      have le_393 : h_391.size ≤ h_393.size := Nat.le_of_eq W_393.size.symm
      have KP_393 := KP_391.wr W_393 (Or.inr sz_b386)
      have O_393 := O_391.wr W_393 g_b386
      have V_393 : Arv Z h_393 b386 k_386 .char (8 : Int32) [(.int (100 : Int32)), (.int (101 : Int32)), (.int (98 : Int32)), (.int (105 : Int32)), (.int (0 : Int32)), (.int (0 : Int32)), (.int (0 : Int32)), (.int (0 : Int32))] (.int (0 : Int32)) := by
        have q := Arv.set Ar_393 ck_393 Sz_393 Ng_393 Hs_393 Gs_393 (fits_nar_char _) W_393 3 rfl (Nat.le_of_ble_eq_true rfl)
        rw [show nar .char (105 : Int32) = (105 : Int32) from by decide] at q; exact q
      show Go p e below _ (T_393.setTop (mkF m 73 #[vI p0, vJ p1, .second, vI p2, vI p3, vI 0, vI pt, vI ed, vI cc, vR b386, vU, vU, vU] []))
      refine Go.step (fun _ k => XS.aload X_393.here hx rfl (hb hby at_73) rfl rfl k) ?_
      refine Go.step (fun _ k => XS.iconst X_393.here hx rfl (hb hby at_75) k) ?_
      refine Go.step (fun _ k => XS.bipush X_393.here hx rfl (hb hby at_76) k) ?_
      show Go p e below _ (T_393.setTop (mkF m 78 #[vI p0, vJ p1, .second, vI p2, vI p3, vI 0, vI pt, vI ed, vI cc, vR b386, vU, vU, vU] [(.int (116 : Int32)), (.int (4 : Int32)), (.ref b386)]))
      have cp396 := V_393
      obtain ⟨cl_395, Ar_395, ck_395, Sz_395, Ng_395, Hs_395, Gs_395⟩ := cp396
      have hin_395 : ¬ ((4 : Int32) < 0 ∨ cl_395.slots.size ≤ ((4 : Int32)).toNatClampNeg) := inb_of Sz_395 ⟨by decide, by decide⟩
      obtain ⟨T_395, h_395, X_395, e_395, W_395, st_395⟩ := stC X_393 hx hZ e_393 Ar_395 (j := (4 : Int32)) hin_395 (g := (mkF m 78 #[vI p0, vJ p1, .second, vI p2, vI p3, vI 0, vI pt, vI ed, vI cc, vR b386, vU, vU, vU] [(.int (116 : Int32)), (.int (4 : Int32)), (.ref b386)])) rfl rfl (hb hby at_78)
      refine Go.step st_395 ?_
      have N_395 := Fr.snoc X_395 N_393 g_b386
      have C_395 := CHr.wr W_395 (Safe.arv hZ.alike V_393 (by decide)) C_393.1
      have CR_395 := CHr.trans CR_393 C_395
      have le_395 : h_393.size ≤ h_395.size := Nat.le_of_eq W_395.size.symm
      have KP_395 := KP_393.wr W_395 (Or.inr sz_b386)
      have O_395 := O_393.wr W_395 g_b386
      have V_395 : Arv Z h_395 b386 k_386 .char (8 : Int32) [(.int (100 : Int32)), (.int (101 : Int32)), (.int (98 : Int32)), (.int (105 : Int32)), (.int (116 : Int32)), (.int (0 : Int32)), (.int (0 : Int32)), (.int (0 : Int32))] (.int (0 : Int32)) := by
        have q := Arv.set Ar_395 ck_395 Sz_395 Ng_395 Hs_395 Gs_395 (fits_nar_char _) W_395 4 rfl (Nat.le_of_ble_eq_true rfl)
        rw [show nar .char (116 : Int32) = (116 : Int32) from by decide] at q; exact q
      show Go p e below _ (T_395.setTop (mkF m 79 #[vI p0, vJ p1, .second, vI p2, vI p3, vI 0, vI pt, vI ed, vI cc, vR b386, vU, vU, vU] []))
      refine Go.step (fun _ k => XS.iconst X_395.here hx rfl (hb hby at_79) k) ?_
      show Go p e below _ (T_395.setTop (mkF m 80 #[vI p0, vJ p1, .second, vI p2, vI p3, vI 0, vI pt, vI ed, vI cc, vR b386, vU, vU, vU] [(.int (5 : Int32))]))
      refine Go.step (fun _ k => XS.istore X_395.here hx rfl (hb hby at_80) rfl (l' := #[vI p0, vJ p1, .second, vI p2, vI p3, vI 0, vI pt, vI ed, vI cc, vR b386, vI 5, vU, vU]) rfl k) ?_
      show Go p e below _ (T_395.setTop (mkF m 82 #[vI p0, vJ p1, .second, vI p2, vI p3, vI 0, vI pt, vI ed, vI cc, vR b386, vI 5, vU, vU] []))
      refine Go.step (fun _ k => XS.goto X_395.here hx rfl (pc0 := 82) (pc' := 206) rfl (hb hby at_82) (by decide) (by decide) k) ?_
      show Go p e below _ (T_395.setTop (mkF m 206 #[vI p0, vJ p1, .second, vI p2, vI p3, vI 0, vI pt, vI ed, vI cc, vR b386, vI 5, vU, vU] []))
      refine Go.step (fun _ k => XS.aconstNull X_395.here hx rfl (hb hby at_206) k) ?_
      show Go p e below _ (T_395.setTop (mkF m 207 #[vI p0, vJ p1, .second, vI p2, vI p3, vI 0, vI pt, vI ed, vI cc, vR b386, vI 5, vU, vU] [.null]))
      refine Go.step (fun _ k => XS.astore X_395.here hx rfl (hb hby at_207) rfl rfl (l' := #[vI p0, vJ p1, .second, vI p2, vI p3, vI 0, vI pt, vI ed, vI cc, vR b386, vI 5, .val .null, vU]) rfl k) ?_
      show Go p e below _ (T_395.setTop (mkF m 209 #[vI p0, vJ p1, .second, vI p2, vI p3, vI 0, vI pt, vI ed, vI cc, vR b386, vI 5, .val .null, vU] []))
      refine Go.step (fun _ k => XS.iload X_395.here hx rfl (hb hby at_209) rfl  k) ?_
      refine Go.step (fun _ k => XS.iconst X_395.here hx rfl (hb hby at_211) k) ?_
      show Go p e below _ (T_395.setTop (mkF m 212 #[vI p0, vJ p1, .second, vI p2, vI p3, vI 0, vI pt, vI ed, vI cc, vR b386, vI 5, .val .null, vU] [(.int (3 : Int32)), (.int (0 : Int32))]))
      refine Go.step (fun _ k => XS.icmpNo X_395.here hx rfl (hb hby at_212) rfl (feq ((by decide) : ¬ ((0 : Int32) = (3 : Int32)))).1 k) ?_
      show Go p e below _ (T_395.setTop (mkF m 215 #[vI p0, vJ p1, .second, vI p2, vI p3, vI 0, vI pt, vI ed, vI cc, vR b386, vI 5, .val .null, vU] []))
      refine sg_edit l Z a0 hw zc va kv ea eb wa wb ((vI p0)) ((vJ p1)) ((.second)) ((vI p3)) ((vI 0)) ((.val .null)) (p2) (pt) (ed) (cc) (b386) (k_386) ((5 : Int32)) (([(100 : Int32), (101 : Int32), (98 : Int32), (105 : Int32), (116 : Int32), (0 : Int32), (0 : Int32), (0 : Int32)] : List Int32)) h_395 n0 (Nat.le_trans Z0 KP_395.1) V_395 g_b386 ⟨rfl, (latc (by decide) (latc (by decide) (latc (by decide) (latc (by decide) (latc (by decide) (latc (by decide) (latc (by decide) (latc (by decide) lat0))))))))⟩ (by decide) l_c hSt O_395 hx hby hml hZ hown X_395 e_395 N_395 (by decide) (by decide) ?_
      intro T_397 L_397 sl_397 n2_397 vs2_397 X_397 hQ_397
      obtain ⟨N_397, K_397, u0_397, u1_397⟩ := hQ_397
      have C_397 := CHr.keep K_397 (sfS (Safe.arv hZ.alike V_395 (by decide)) sf0) C_395.1
      have CR_397 := CHr.trans CR_395 C_397
      have le_397 : h_395.size ≤ T_397.heap.size := K_397.1
      have KP_397 := KP_395.trans K_397 (allS (Or.inr sz_b386) all0)
      have O_397 := O_395.keep K_397 (allS g_b386 all0)
      have hv2_397 := u1_397
      show Go p e below _ (T_397.setTop (mkF m 287 #[vI p0, vJ p1, .second, vI p2, vI p3, vI 0, vI pt, vI ed, vI cc, vR b386, vI n2_397, .val .null, sl_397] []))
      obtain ⟨⟨⟨hv_397, hl_397⟩, hn2_397⟩, hsl_397⟩ := hv2_397
      obtain ⟨c0_397, c1_397, c2_397, c3_397, c4_397, c5_397, c6_397, c7_397, rfl⟩ := list8 hv_397
      have l_c0_397 : ¬ c0_397 < 0 ∧ ¬ (255 : Int32) < c0_397 := hl_397 _ (by simp)
      have l_c1_397 : ¬ c1_397 < 0 ∧ ¬ (255 : Int32) < c1_397 := hl_397 _ (by simp)
      have l_c2_397 : ¬ c2_397 < 0 ∧ ¬ (255 : Int32) < c2_397 := hl_397 _ (by simp)
      have l_c3_397 : ¬ c3_397 < 0 ∧ ¬ (255 : Int32) < c3_397 := hl_397 _ (by simp)
      have l_c4_397 : ¬ c4_397 < 0 ∧ ¬ (255 : Int32) < c4_397 := hl_397 _ (by simp)
      have l_c5_397 : ¬ c5_397 < 0 ∧ ¬ (255 : Int32) < c5_397 := hl_397 _ (by simp)
      have l_c6_397 : ¬ c6_397 < 0 ∧ ¬ (255 : Int32) < c6_397 := hl_397 _ (by simp)
      have l_c7_397 : ¬ c7_397 < 0 ∧ ¬ (255 : Int32) < c7_397 := hl_397 _ (by simp)
      show Go p e below _ (T_397.setTop (mkF m 287 #[vI p0, vJ p1, .second, vI p2, vI p3, vI 0, vI pt, vI ed, vI cc, vR b386, vI n2_397, .val .null, sl_397] []))
      exact tg_tailC l Z a0 hw zc va kv ea eb wa wb ((vI p0)) ((vJ p1)) ((.second)) ((vI p2)) ((vI p3)) ((vI 0)) ((vI pt)) ((vI ed)) ((vI cc)) ((sl_397)) (n2_397) (b386) (k_386) (c0_397) (c1_397) (c2_397) (c3_397) (c4_397) (c5_397) (c6_397) (c7_397) T_397.heap n0 (Nat.le_trans Z0 KP_397.1) u0_397 l_c0_397 l_c1_397 l_c2_397 l_c3_397 l_c4_397 l_c5_397 l_c6_397 l_c7_397 hn2_397 hsl_397 hSt O_397 hx hby hml hret hlk hZ hown X_397 rfl N_397 hS0 (Nat.le_trans hk0 (Nat.le_trans le_386 (Nat.le_trans le_387 (Nat.le_trans le_389 (Nat.le_trans le_391 (Nat.le_trans le_393 (Nat.le_trans le_395 le_397))))))) C_397.1 CR_397 hh0 (by decide) (by decide)
    · skip
      show Go p e below _ (T_386.setTop (mkF m 44 #[vI p0, vJ p1, .second, vI p2, vI p3, vI 1, vI pt, vI ed, vI cc, vR b386, vU, vU, vU] []))
      refine Go.step (fun _ k => XS.iload X_386.here hx rfl (hb hby at_44) rfl  k) ?_
      show Go p e below _ (T_386.setTop (mkF m 46 #[vI p0, vJ p1, .second, vI p2, vI p3, vI 1, vI pt, vI ed, vI cc, vR b386, vU, vU, vU] [(.int (1 : Int32))]))
      refine Go.step (fun _ k => XS.ifYes X_386.here hx rfl (pc0 := 46) (pc' := 85) rfl (hb hby at_46) rfl ((if0 _ _).trans (feq ((by decide) : ¬ ((1 : Int32) = (0 : Int32)))).2) (by decide) (by decide) k) ?_
      show Go p e below _ (T_386.setTop (mkF m 85 #[vI p0, vJ p1, .second, vI p2, vI p3, vI 1, vI pt, vI ed, vI cc, vR b386, vU, vU, vU] []))
      refine Go.step (fun _ k => XS.iload X_386.here hx rfl (hb hby at_85) rfl  k) ?_
      refine Go.step (fun _ k => XS.iconst X_386.here hx rfl (hb hby at_87) k) ?_
      show Go p e below _ (T_386.setTop (mkF m 88 #[vI p0, vJ p1, .second, vI p2, vI p3, vI 1, vI pt, vI ed, vI cc, vR b386, vU, vU, vU] [(.int (1 : Int32)), (.int (1 : Int32))]))
      refine Go.step (fun _ k => XS.icmpNo X_386.here hx rfl (hb hby at_88) rfl (teq ((by decide) : (1 : Int32) = (1 : Int32))).2 k) ?_
      show Go p e below _ (T_386.setTop (mkF m 91 #[vI p0, vJ p1, .second, vI p2, vI p3, vI 1, vI pt, vI ed, vI cc, vR b386, vU, vU, vU] []))
      refine Go.step (fun _ k => XS.aload X_386.here hx rfl (hb hby at_91) rfl rfl k) ?_
      refine Go.step (fun _ k => XS.iconst X_386.here hx rfl (hb hby at_93) k) ?_
      refine Go.step (fun _ k => XS.bipush X_386.here hx rfl (hb hby at_94) k) ?_
      show Go p e below _ (T_386.setTop (mkF m 96 #[vI p0, vJ p1, .second, vI p2, vI p3, vI 1, vI pt, vI ed, vI cc, vR b386, vU, vU, vU] [(.int (99 : Int32)), (.int (0 : Int32)), (.ref b386)]))
      have cp399 := V_386
      obtain ⟨cl_398, Ar_398, ck_398, Sz_398, Ng_398, Hs_398, Gs_398⟩ := cp399
      have hin_398 : ¬ ((0 : Int32) < 0 ∨ cl_398.slots.size ≤ ((0 : Int32)).toNatClampNeg) := inb_of Sz_398 ⟨by decide, by decide⟩
      obtain ⟨T_398, h_398, X_398, e_398, W_398, st_398⟩ := stC X_386 hx hZ e_386 Ar_398 (j := (0 : Int32)) hin_398 (g := (mkF m 96 #[vI p0, vJ p1, .second, vI p2, vI p3, vI 1, vI pt, vI ed, vI cc, vR b386, vU, vU, vU] [(.int (99 : Int32)), (.int (0 : Int32)), (.ref b386)])) rfl rfl (hb hby at_96)
      refine Go.step st_398 ?_
      have N_398 := Fr.snoc X_398 N0 g_b386
      have C_398 := CHr.wr W_398 (Safe.arv hZ.alike V_386 (by decide)) C_386.1
      have CR_398 := CHr.trans CR_386 C_398
      have le_398 : h_386.size ≤ h_398.size := Nat.le_of_eq W_398.size.symm
      have KP_398 := KP_386.wr W_398 (Or.inr sz_b386)
      have O_398 := O_386.wr W_398 g_b386
      have V_398 : Arv Z h_398 b386 k_386 .char (8 : Int32) [(.int (99 : Int32)), (.int (0 : Int32)), (.int (0 : Int32)), (.int (0 : Int32)), (.int (0 : Int32)), (.int (0 : Int32)), (.int (0 : Int32)), (.int (0 : Int32))] (.int (0 : Int32)) := by
        have q := Arv.set Ar_398 ck_398 Sz_398 Ng_398 Hs_398 Gs_398 (fits_nar_char _) W_398 0 rfl (Nat.le_of_ble_eq_true rfl)
        rw [show nar .char (99 : Int32) = (99 : Int32) from by decide] at q; exact q
      show Go p e below _ (T_398.setTop (mkF m 97 #[vI p0, vJ p1, .second, vI p2, vI p3, vI 1, vI pt, vI ed, vI cc, vR b386, vU, vU, vU] []))
      refine Go.step (fun _ k => XS.aload X_398.here hx rfl (hb hby at_97) rfl rfl k) ?_
      refine Go.step (fun _ k => XS.iconst X_398.here hx rfl (hb hby at_99) k) ?_
      refine Go.step (fun _ k => XS.bipush X_398.here hx rfl (hb hby at_100) k) ?_
      show Go p e below _ (T_398.setTop (mkF m 102 #[vI p0, vJ p1, .second, vI p2, vI p3, vI 1, vI pt, vI ed, vI cc, vR b386, vU, vU, vU] [(.int (114 : Int32)), (.int (1 : Int32)), (.ref b386)]))
      have cp401 := V_398
      obtain ⟨cl_400, Ar_400, ck_400, Sz_400, Ng_400, Hs_400, Gs_400⟩ := cp401
      have hin_400 : ¬ ((1 : Int32) < 0 ∨ cl_400.slots.size ≤ ((1 : Int32)).toNatClampNeg) := inb_of Sz_400 ⟨by decide, by decide⟩
      obtain ⟨T_400, h_400, X_400, e_400, W_400, st_400⟩ := stC X_398 hx hZ e_398 Ar_400 (j := (1 : Int32)) hin_400 (g := (mkF m 102 #[vI p0, vJ p1, .second, vI p2, vI p3, vI 1, vI pt, vI ed, vI cc, vR b386, vU, vU, vU] [(.int (114 : Int32)), (.int (1 : Int32)), (.ref b386)])) rfl rfl (hb hby at_102)
      refine Go.step st_400 ?_
      have N_400 := Fr.snoc X_400 N_398 g_b386
      have C_400 := CHr.wr W_400 (Safe.arv hZ.alike V_398 (by decide)) C_398.1
      have CR_400 := CHr.trans CR_398 C_400
      have le_400 : h_398.size ≤ h_400.size := Nat.le_of_eq W_400.size.symm
      have KP_400 := KP_398.wr W_400 (Or.inr sz_b386)
      have O_400 := O_398.wr W_400 g_b386
      have V_400 : Arv Z h_400 b386 k_386 .char (8 : Int32) [(.int (99 : Int32)), (.int (114 : Int32)), (.int (0 : Int32)), (.int (0 : Int32)), (.int (0 : Int32)), (.int (0 : Int32)), (.int (0 : Int32)), (.int (0 : Int32))] (.int (0 : Int32)) := by
        have q := Arv.set Ar_400 ck_400 Sz_400 Ng_400 Hs_400 Gs_400 (fits_nar_char _) W_400 1 rfl (Nat.le_of_ble_eq_true rfl)
        rw [show nar .char (114 : Int32) = (114 : Int32) from by decide] at q; exact q
      show Go p e below _ (T_400.setTop (mkF m 103 #[vI p0, vJ p1, .second, vI p2, vI p3, vI 1, vI pt, vI ed, vI cc, vR b386, vU, vU, vU] []))
      refine Go.step (fun _ k => XS.aload X_400.here hx rfl (hb hby at_103) rfl rfl k) ?_
      refine Go.step (fun _ k => XS.iconst X_400.here hx rfl (hb hby at_105) k) ?_
      refine Go.step (fun _ k => XS.bipush X_400.here hx rfl (hb hby at_106) k) ?_
      show Go p e below _ (T_400.setTop (mkF m 108 #[vI p0, vJ p1, .second, vI p2, vI p3, vI 1, vI pt, vI ed, vI cc, vR b386, vU, vU, vU] [(.int (101 : Int32)), (.int (2 : Int32)), (.ref b386)]))
      have cp403 := V_400
      obtain ⟨cl_402, Ar_402, ck_402, Sz_402, Ng_402, Hs_402, Gs_402⟩ := cp403
      have hin_402 : ¬ ((2 : Int32) < 0 ∨ cl_402.slots.size ≤ ((2 : Int32)).toNatClampNeg) := inb_of Sz_402 ⟨by decide, by decide⟩
      obtain ⟨T_402, h_402, X_402, e_402, W_402, st_402⟩ := stC X_400 hx hZ e_400 Ar_402 (j := (2 : Int32)) hin_402 (g := (mkF m 108 #[vI p0, vJ p1, .second, vI p2, vI p3, vI 1, vI pt, vI ed, vI cc, vR b386, vU, vU, vU] [(.int (101 : Int32)), (.int (2 : Int32)), (.ref b386)])) rfl rfl (hb hby at_108)
      refine Go.step st_402 ?_
      have N_402 := Fr.snoc X_402 N_400 g_b386
      have C_402 := CHr.wr W_402 (Safe.arv hZ.alike V_400 (by decide)) C_400.1
      have CR_402 := CHr.trans CR_400 C_402
      have le_402 : h_400.size ≤ h_402.size := Nat.le_of_eq W_402.size.symm
      have KP_402 := KP_400.wr W_402 (Or.inr sz_b386)
      have O_402 := O_400.wr W_402 g_b386
      have V_402 : Arv Z h_402 b386 k_386 .char (8 : Int32) [(.int (99 : Int32)), (.int (114 : Int32)), (.int (101 : Int32)), (.int (0 : Int32)), (.int (0 : Int32)), (.int (0 : Int32)), (.int (0 : Int32)), (.int (0 : Int32))] (.int (0 : Int32)) := by
        have q := Arv.set Ar_402 ck_402 Sz_402 Ng_402 Hs_402 Gs_402 (fits_nar_char _) W_402 2 rfl (Nat.le_of_ble_eq_true rfl)
        rw [show nar .char (101 : Int32) = (101 : Int32) from by decide] at q; exact q
      show Go p e below _ (T_402.setTop (mkF m 109 #[vI p0, vJ p1, .second, vI p2, vI p3, vI 1, vI pt, vI ed, vI cc, vR b386, vU, vU, vU] []))
      refine Go.step (fun _ k => XS.aload X_402.here hx rfl (hb hby at_109) rfl rfl k) ?_
      refine Go.step (fun _ k => XS.iconst X_402.here hx rfl (hb hby at_111) k) ?_
      refine Go.step (fun _ k => XS.bipush X_402.here hx rfl (hb hby at_112) k) ?_
      show Go p e below _ (T_402.setTop (mkF m 114 #[vI p0, vJ p1, .second, vI p2, vI p3, vI 1, vI pt, vI ed, vI cc, vR b386, vU, vU, vU] [(.int (100 : Int32)), (.int (3 : Int32)), (.ref b386)]))
      have cp405 := V_402
      obtain ⟨cl_404, Ar_404, ck_404, Sz_404, Ng_404, Hs_404, Gs_404⟩ := cp405
      have hin_404 : ¬ ((3 : Int32) < 0 ∨ cl_404.slots.size ≤ ((3 : Int32)).toNatClampNeg) := inb_of Sz_404 ⟨by decide, by decide⟩
      obtain ⟨T_404, h_404, X_404, e_404, W_404, st_404⟩ := stC X_402 hx hZ e_402 Ar_404 (j := (3 : Int32)) hin_404 (g := (mkF m 114 #[vI p0, vJ p1, .second, vI p2, vI p3, vI 1, vI pt, vI ed, vI cc, vR b386, vU, vU, vU] [(.int (100 : Int32)), (.int (3 : Int32)), (.ref b386)])) rfl rfl (hb hby at_114)
      refine Go.step st_404 ?_
      have N_404 := Fr.snoc X_404 N_402 g_b386
      have C_404 := CHr.wr W_404 (Safe.arv hZ.alike V_402 (by decide)) C_402.1
      have CR_404 := CHr.trans CR_402 C_404
      have le_404 : h_402.size ≤ h_404.size := Nat.le_of_eq W_404.size.symm
      have KP_404 := KP_402.wr W_404 (Or.inr sz_b386)
      have O_404 := O_402.wr W_404 g_b386
      have V_404 : Arv Z h_404 b386 k_386 .char (8 : Int32) [(.int (99 : Int32)), (.int (114 : Int32)), (.int (101 : Int32)), (.int (100 : Int32)), (.int (0 : Int32)), (.int (0 : Int32)), (.int (0 : Int32)), (.int (0 : Int32))] (.int (0 : Int32)) := by
        have q := Arv.set Ar_404 ck_404 Sz_404 Ng_404 Hs_404 Gs_404 (fits_nar_char _) W_404 3 rfl (Nat.le_of_ble_eq_true rfl)
        rw [show nar .char (100 : Int32) = (100 : Int32) from by decide] at q; exact q
      show Go p e below _ (T_404.setTop (mkF m 115 #[vI p0, vJ p1, .second, vI p2, vI p3, vI 1, vI pt, vI ed, vI cc, vR b386, vU, vU, vU] []))
      refine Go.step (fun _ k => XS.aload X_404.here hx rfl (hb hby at_115) rfl rfl k) ?_
      refine Go.step (fun _ k => XS.iconst X_404.here hx rfl (hb hby at_117) k) ?_
      refine Go.step (fun _ k => XS.bipush X_404.here hx rfl (hb hby at_118) k) ?_
      show Go p e below _ (T_404.setTop (mkF m 120 #[vI p0, vJ p1, .second, vI p2, vI p3, vI 1, vI pt, vI ed, vI cc, vR b386, vU, vU, vU] [(.int (105 : Int32)), (.int (4 : Int32)), (.ref b386)]))
      have cp407 := V_404
      obtain ⟨cl_406, Ar_406, ck_406, Sz_406, Ng_406, Hs_406, Gs_406⟩ := cp407
      have hin_406 : ¬ ((4 : Int32) < 0 ∨ cl_406.slots.size ≤ ((4 : Int32)).toNatClampNeg) := inb_of Sz_406 ⟨by decide, by decide⟩
      obtain ⟨T_406, h_406, X_406, e_406, W_406, st_406⟩ := stC X_404 hx hZ e_404 Ar_406 (j := (4 : Int32)) hin_406 (g := (mkF m 120 #[vI p0, vJ p1, .second, vI p2, vI p3, vI 1, vI pt, vI ed, vI cc, vR b386, vU, vU, vU] [(.int (105 : Int32)), (.int (4 : Int32)), (.ref b386)])) rfl rfl (hb hby at_120)
      refine Go.step st_406 ?_
      have N_406 := Fr.snoc X_406 N_404 g_b386
      have C_406 := CHr.wr W_406 (Safe.arv hZ.alike V_404 (by decide)) C_404.1
      have CR_406 := CHr.trans CR_404 C_406
      have le_406 : h_404.size ≤ h_406.size := Nat.le_of_eq W_406.size.symm
      have KP_406 := KP_404.wr W_406 (Or.inr sz_b386)
      have O_406 := O_404.wr W_406 g_b386
      have V_406 : Arv Z h_406 b386 k_386 .char (8 : Int32) [(.int (99 : Int32)), (.int (114 : Int32)), (.int (101 : Int32)), (.int (100 : Int32)), (.int (105 : Int32)), (.int (0 : Int32)), (.int (0 : Int32)), (.int (0 : Int32))] (.int (0 : Int32)) := by
        have q := Arv.set Ar_406 ck_406 Sz_406 Ng_406 Hs_406 Gs_406 (fits_nar_char _) W_406 4 rfl (Nat.le_of_ble_eq_true rfl)
        rw [show nar .char (105 : Int32) = (105 : Int32) from by decide] at q; exact q
      show Go p e below _ (T_406.setTop (mkF m 121 #[vI p0, vJ p1, .second, vI p2, vI p3, vI 1, vI pt, vI ed, vI cc, vR b386, vU, vU, vU] []))
      refine Go.step (fun _ k => XS.aload X_406.here hx rfl (hb hby at_121) rfl rfl k) ?_
      refine Go.step (fun _ k => XS.iconst X_406.here hx rfl (hb hby at_123) k) ?_
      refine Go.step (fun _ k => XS.bipush X_406.here hx rfl (hb hby at_124) k) ?_
      show Go p e below _ (T_406.setTop (mkF m 126 #[vI p0, vJ p1, .second, vI p2, vI p3, vI 1, vI pt, vI ed, vI cc, vR b386, vU, vU, vU] [(.int (116 : Int32)), (.int (5 : Int32)), (.ref b386)]))
      have cp409 := V_406
      obtain ⟨cl_408, Ar_408, ck_408, Sz_408, Ng_408, Hs_408, Gs_408⟩ := cp409
      have hin_408 : ¬ ((5 : Int32) < 0 ∨ cl_408.slots.size ≤ ((5 : Int32)).toNatClampNeg) := inb_of Sz_408 ⟨by decide, by decide⟩
      obtain ⟨T_408, h_408, X_408, e_408, W_408, st_408⟩ := stC X_406 hx hZ e_406 Ar_408 (j := (5 : Int32)) hin_408 (g := (mkF m 126 #[vI p0, vJ p1, .second, vI p2, vI p3, vI 1, vI pt, vI ed, vI cc, vR b386, vU, vU, vU] [(.int (116 : Int32)), (.int (5 : Int32)), (.ref b386)])) rfl rfl (hb hby at_126)
      refine Go.step st_408 ?_
      have N_408 := Fr.snoc X_408 N_406 g_b386
      have C_408 := CHr.wr W_408 (Safe.arv hZ.alike V_406 (by decide)) C_406.1
      have CR_408 := CHr.trans CR_406 C_408
      have le_408 : h_406.size ≤ h_408.size := Nat.le_of_eq W_408.size.symm
      have KP_408 := KP_406.wr W_408 (Or.inr sz_b386)
      have O_408 := O_406.wr W_408 g_b386
      have V_408 : Arv Z h_408 b386 k_386 .char (8 : Int32) [(.int (99 : Int32)), (.int (114 : Int32)), (.int (101 : Int32)), (.int (100 : Int32)), (.int (105 : Int32)), (.int (116 : Int32)), (.int (0 : Int32)), (.int (0 : Int32))] (.int (0 : Int32)) := by
        have q := Arv.set Ar_408 ck_408 Sz_408 Ng_408 Hs_408 Gs_408 (fits_nar_char _) W_408 5 rfl (Nat.le_of_ble_eq_true rfl)
        rw [show nar .char (116 : Int32) = (116 : Int32) from by decide] at q; exact q
      show Go p e below _ (T_408.setTop (mkF m 127 #[vI p0, vJ p1, .second, vI p2, vI p3, vI 1, vI pt, vI ed, vI cc, vR b386, vU, vU, vU] []))
      refine Go.step (fun _ k => XS.bipush X_408.here hx rfl (hb hby at_127) k) ?_
      show Go p e below _ (T_408.setTop (mkF m 129 #[vI p0, vJ p1, .second, vI p2, vI p3, vI 1, vI pt, vI ed, vI cc, vR b386, vU, vU, vU] [(.int (6 : Int32))]))
      refine Go.step (fun _ k => XS.istore X_408.here hx rfl (hb hby at_129) rfl (l' := #[vI p0, vJ p1, .second, vI p2, vI p3, vI 1, vI pt, vI ed, vI cc, vR b386, vI 6, vU, vU]) rfl k) ?_
      show Go p e below _ (T_408.setTop (mkF m 131 #[vI p0, vJ p1, .second, vI p2, vI p3, vI 1, vI pt, vI ed, vI cc, vR b386, vI 6, vU, vU] []))
      refine Go.step (fun _ k => XS.goto X_408.here hx rfl (pc0 := 131) (pc' := 206) rfl (hb hby at_131) (by decide) (by decide) k) ?_
      show Go p e below _ (T_408.setTop (mkF m 206 #[vI p0, vJ p1, .second, vI p2, vI p3, vI 1, vI pt, vI ed, vI cc, vR b386, vI 6, vU, vU] []))
      refine Go.step (fun _ k => XS.aconstNull X_408.here hx rfl (hb hby at_206) k) ?_
      show Go p e below _ (T_408.setTop (mkF m 207 #[vI p0, vJ p1, .second, vI p2, vI p3, vI 1, vI pt, vI ed, vI cc, vR b386, vI 6, vU, vU] [.null]))
      refine Go.step (fun _ k => XS.astore X_408.here hx rfl (hb hby at_207) rfl rfl (l' := #[vI p0, vJ p1, .second, vI p2, vI p3, vI 1, vI pt, vI ed, vI cc, vR b386, vI 6, .val .null, vU]) rfl k) ?_
      show Go p e below _ (T_408.setTop (mkF m 209 #[vI p0, vJ p1, .second, vI p2, vI p3, vI 1, vI pt, vI ed, vI cc, vR b386, vI 6, .val .null, vU] []))
      refine Go.step (fun _ k => XS.iload X_408.here hx rfl (hb hby at_209) rfl  k) ?_
      refine Go.step (fun _ k => XS.iconst X_408.here hx rfl (hb hby at_211) k) ?_
      show Go p e below _ (T_408.setTop (mkF m 212 #[vI p0, vJ p1, .second, vI p2, vI p3, vI 1, vI pt, vI ed, vI cc, vR b386, vI 6, .val .null, vU] [(.int (3 : Int32)), (.int (1 : Int32))]))
      refine Go.step (fun _ k => XS.icmpNo X_408.here hx rfl (hb hby at_212) rfl (feq ((by decide) : ¬ ((1 : Int32) = (3 : Int32)))).1 k) ?_
      show Go p e below _ (T_408.setTop (mkF m 215 #[vI p0, vJ p1, .second, vI p2, vI p3, vI 1, vI pt, vI ed, vI cc, vR b386, vI 6, .val .null, vU] []))
      refine sg_edit l Z a0 hw zc va kv ea eb wa wb ((vI p0)) ((vJ p1)) ((.second)) ((vI p3)) ((vI 1)) ((.val .null)) (p2) (pt) (ed) (cc) (b386) (k_386) ((6 : Int32)) (([(99 : Int32), (114 : Int32), (101 : Int32), (100 : Int32), (105 : Int32), (116 : Int32), (0 : Int32), (0 : Int32)] : List Int32)) h_408 n0 (Nat.le_trans Z0 KP_408.1) V_408 g_b386 ⟨rfl, (latc (by decide) (latc (by decide) (latc (by decide) (latc (by decide) (latc (by decide) (latc (by decide) (latc (by decide) (latc (by decide) lat0))))))))⟩ (by decide) l_c hSt O_408 hx hby hml hZ hown X_408 e_408 N_408 (by decide) (by decide) ?_
      intro T_410 L_410 sl_410 n2_410 vs2_410 X_410 hQ_410
      obtain ⟨N_410, K_410, u0_410, u1_410⟩ := hQ_410
      have C_410 := CHr.keep K_410 (sfS (Safe.arv hZ.alike V_408 (by decide)) sf0) C_408.1
      have CR_410 := CHr.trans CR_408 C_410
      have le_410 : h_408.size ≤ T_410.heap.size := K_410.1
      have KP_410 := KP_408.trans K_410 (allS (Or.inr sz_b386) all0)
      have O_410 := O_408.keep K_410 (allS g_b386 all0)
      have hv2_410 := u1_410
      show Go p e below _ (T_410.setTop (mkF m 287 #[vI p0, vJ p1, .second, vI p2, vI p3, vI 1, vI pt, vI ed, vI cc, vR b386, vI n2_410, .val .null, sl_410] []))
      obtain ⟨⟨⟨hv_410, hl_410⟩, hn2_410⟩, hsl_410⟩ := hv2_410
      obtain ⟨c0_410, c1_410, c2_410, c3_410, c4_410, c5_410, c6_410, c7_410, rfl⟩ := list8 hv_410
      have l_c0_410 : ¬ c0_410 < 0 ∧ ¬ (255 : Int32) < c0_410 := hl_410 _ (by simp)
      have l_c1_410 : ¬ c1_410 < 0 ∧ ¬ (255 : Int32) < c1_410 := hl_410 _ (by simp)
      have l_c2_410 : ¬ c2_410 < 0 ∧ ¬ (255 : Int32) < c2_410 := hl_410 _ (by simp)
      have l_c3_410 : ¬ c3_410 < 0 ∧ ¬ (255 : Int32) < c3_410 := hl_410 _ (by simp)
      have l_c4_410 : ¬ c4_410 < 0 ∧ ¬ (255 : Int32) < c4_410 := hl_410 _ (by simp)
      have l_c5_410 : ¬ c5_410 < 0 ∧ ¬ (255 : Int32) < c5_410 := hl_410 _ (by simp)
      have l_c6_410 : ¬ c6_410 < 0 ∧ ¬ (255 : Int32) < c6_410 := hl_410 _ (by simp)
      have l_c7_410 : ¬ c7_410 < 0 ∧ ¬ (255 : Int32) < c7_410 := hl_410 _ (by simp)
      show Go p e below _ (T_410.setTop (mkF m 287 #[vI p0, vJ p1, .second, vI p2, vI p3, vI 1, vI pt, vI ed, vI cc, vR b386, vI n2_410, .val .null, sl_410] []))
      exact tg_tailC l Z a0 hw zc va kv ea eb wa wb ((vI p0)) ((vJ p1)) ((.second)) ((vI p2)) ((vI p3)) ((vI 1)) ((vI pt)) ((vI ed)) ((vI cc)) ((sl_410)) (n2_410) (b386) (k_386) (c0_410) (c1_410) (c2_410) (c3_410) (c4_410) (c5_410) (c6_410) (c7_410) T_410.heap n0 (Nat.le_trans Z0 KP_410.1) u0_410 l_c0_410 l_c1_410 l_c2_410 l_c3_410 l_c4_410 l_c5_410 l_c6_410 l_c7_410 hn2_410 hsl_410 hSt O_410 hx hby hml hret hlk hZ hown X_410 rfl N_410 hS0 (Nat.le_trans hk0 (Nat.le_trans le_386 (Nat.le_trans le_398 (Nat.le_trans le_400 (Nat.le_trans le_402 (Nat.le_trans le_404 (Nat.le_trans le_406 (Nat.le_trans le_408 le_410)))))))) C_410.1 CR_410 hh0 (by decide) (by decide)
    · skip
      show Go p e below _ (T_386.setTop (mkF m 44 #[vI p0, vJ p1, .second, vI p2, vI p3, vI 2, vI pt, vI ed, vI cc, vR b386, vU, vU, vU] []))
      refine Go.step (fun _ k => XS.iload X_386.here hx rfl (hb hby at_44) rfl  k) ?_
      show Go p e below _ (T_386.setTop (mkF m 46 #[vI p0, vJ p1, .second, vI p2, vI p3, vI 2, vI pt, vI ed, vI cc, vR b386, vU, vU, vU] [(.int (2 : Int32))]))
      refine Go.step (fun _ k => XS.ifYes X_386.here hx rfl (pc0 := 46) (pc' := 85) rfl (hb hby at_46) rfl ((if0 _ _).trans (feq ((by decide) : ¬ ((2 : Int32) = (0 : Int32)))).2) (by decide) (by decide) k) ?_
      show Go p e below _ (T_386.setTop (mkF m 85 #[vI p0, vJ p1, .second, vI p2, vI p3, vI 2, vI pt, vI ed, vI cc, vR b386, vU, vU, vU] []))
      refine Go.step (fun _ k => XS.iload X_386.here hx rfl (hb hby at_85) rfl  k) ?_
      refine Go.step (fun _ k => XS.iconst X_386.here hx rfl (hb hby at_87) k) ?_
      show Go p e below _ (T_386.setTop (mkF m 88 #[vI p0, vJ p1, .second, vI p2, vI p3, vI 2, vI pt, vI ed, vI cc, vR b386, vU, vU, vU] [(.int (1 : Int32)), (.int (2 : Int32))]))
      refine Go.step (fun _ k => XS.icmpYes X_386.here hx rfl (pc0 := 88) (pc' := 134) rfl (hb hby at_88) rfl (feq ((by decide) : ¬ ((2 : Int32) = (1 : Int32)))).2 (by decide) (by decide) k) ?_
      show Go p e below _ (T_386.setTop (mkF m 134 #[vI p0, vJ p1, .second, vI p2, vI p3, vI 2, vI pt, vI ed, vI cc, vR b386, vU, vU, vU] []))
      refine Go.step (fun _ k => XS.iload X_386.here hx rfl (hb hby at_134) rfl  k) ?_
      refine Go.step (fun _ k => XS.bipush X_386.here hx rfl (hb hby at_136) k) ?_
      show Go p e below _ (T_386.setTop (mkF m 138 #[vI p0, vJ p1, .second, vI p2, vI p3, vI 2, vI pt, vI ed, vI cc, vR b386, vU, vU, vU] [(.int (7 : Int32)), (.int p3)]))
      refine Go.step (fun _ k => XS.iand X_386.here hx rfl (hb hby at_138) rfl k) ?_
      show Go p e below _ (T_386.setTop (mkF m 139 #[vI p0, vJ p1, .second, vI p2, vI p3, vI 2, vI pt, vI ed, vI cc, vR b386, vU, vU, vU] [(.int (p3 &&& (7 : Int32)))]))
      refine Go.step (fun _ k => XS.istore X_386.here hx rfl (hb hby at_139) rfl (l' := #[vI p0, vJ p1, .second, vI p2, vI p3, vI 2, vI pt, vI ed, vI cc, vR b386, vI (p3 &&& (7 : Int32)), vU, vU]) rfl k) ?_
      show Go p e below _ (T_386.setTop (mkF m 141 #[vI p0, vJ p1, .second, vI p2, vI p3, vI 2, vI pt, vI ed, vI cc, vR b386, vI (p3 &&& (7 : Int32)), vU, vU] []))
      obtain ⟨nn, h_nn⟩ : ∃ z, z = (p3 &&& (7 : Int32)) := ⟨_, rfl⟩
      rw [← h_nn]
      show Go p e below _ (T_386.setTop (mkF m 141 #[vI p0, vJ p1, .second, vI p2, vI p3, vI 2, vI pt, vI ed, vI cc, vR b386, vI nn, vU, vU] []))
      have h_nn7 : 0 ≤ nn.toInt ∧ nn.toInt ≤ 7 := by rw [h_nn]; exact and7 _
      show Go p e below _ (T_386.setTop (mkF m 141 #[vI p0, vJ p1, .second, vI p2, vI p3, vI 2, vI pt, vI ed, vI cc, vR b386, vI nn, vU, vU] []))
      refine Go.step (fun _ k => XS.aload X_386.here hx rfl (hb hby at_141) rfl rfl k) ?_
      refine Go.step (fun _ k => XS.iconst X_386.here hx rfl (hb hby at_143) k) ?_
      refine Go.step (fun _ k => XS.lloadN X_386.here hx rfl (hb hby at_144) rfl  k) ?_
      refine Go.step (fun _ k => XS.iconst X_386.here hx rfl (hb hby at_145) k) ?_
      show Go p e below _ (T_386.setTop (mkF m 146 #[vI p0, vJ p1, .second, vI p2, vI p3, vI 2, vI pt, vI ed, vI cc, vR b386, vI nn, vU, vU] [(.int (0 : Int32)), (.long p1), (.int (0 : Int32)), (.ref b386)]))
      obtain ⟨v_411, T_411, L_411, X_411, hQ_411, st_411⟩ := goS X_386 hx hZ (y := Y_6) hown (wd_72 hw) (wd_73 hw) (wd_6 hw) (wd_74 hw) (by decide) (backOf (W := 2) (rm_ch l Z a0 hw zc va kv ea eb wa wb (p1) ((0 : Int32)) h_386 n0 (Nat.le_trans Z0 KP_386.1) hSt O_386) hZ (wd_74 hw) (wd_6 hw) (by decide) (by decide)) e_386 (g := (mkF m 146 #[vI p0, vJ p1, .second, vI p2, vI p3, vI 2, vI pt, vI ed, vI cc, vR b386, vI nn, vU, vU] [(.int (0 : Int32)), (.long p1), (.int (0 : Int32)), (.ref b386)])) rfl (by rw [hml]; rfl) (argsL := [(.long p1), (.int (0 : Int32))]) (rest := [(.int (0 : Int32)), (.ref b386)]) rfl (lenOf pd_6 rfl) rfl (by show 2 * 0 + _ ≤ _; exact Nat.le_of_eq rfl) (hb hby at_146) (by decide) (by decide)
      obtain ⟨v1_411, rfl, Nq_411, e_411, u0_411⟩ := hQ_411
      have N_411 := Fr.app N0 Nq_411
      have hlat_411 := u0_411
      refine Go.step st_411 ?_
      show Go p e below _ (T_411.setTop (mkF m 149 #[vI p0, vJ p1, .second, vI p2, vI p3, vI 2, vI pt, vI ed, vI cc, vR b386, vI nn, vU, vU] [(.int v1_411), (.int (0 : Int32)), (.ref b386)]))
      have cp413 := V_386
      obtain ⟨cl_412, Ar_412, ck_412, Sz_412, Ng_412, Hs_412, Gs_412⟩ := cp413
      have hin_412 : ¬ ((0 : Int32) < 0 ∨ cl_412.slots.size ≤ ((0 : Int32)).toNatClampNeg) := inb_of Sz_412 ⟨by decide, by decide⟩
      obtain ⟨T_412, h_412, X_412, e_412, W_412, st_412⟩ := stC X_411 hx hZ e_411 Ar_412 (j := (0 : Int32)) hin_412 (g := (mkF m 149 #[vI p0, vJ p1, .second, vI p2, vI p3, vI 2, vI pt, vI ed, vI cc, vR b386, vI nn, vU, vU] [(.int v1_411), (.int (0 : Int32)), (.ref b386)])) rfl rfl (hb hby at_149)
      refine Go.step st_412 ?_
      have N_412 := Fr.snoc X_412 N_411 g_b386
      have C_412 := CHr.wr W_412 (Safe.arv hZ.alike V_386 (by decide)) C_386.1
      have CR_412 := CHr.trans CR_386 C_412
      have le_412 : h_386.size ≤ h_412.size := Nat.le_of_eq W_412.size.symm
      have KP_412 := KP_386.wr W_412 (Or.inr sz_b386)
      have O_412 := O_386.wr W_412 g_b386
      have V_412 : Arv Z h_412 b386 k_386 .char (8 : Int32) [(.int v1_411), (.int (0 : Int32)), (.int (0 : Int32)), (.int (0 : Int32)), (.int (0 : Int32)), (.int (0 : Int32)), (.int (0 : Int32)), (.int (0 : Int32))] (.int (0 : Int32)) := by
        have q := Arv.set Ar_412 ck_412 Sz_412 Ng_412 Hs_412 Gs_412 (fits_nar_char _) W_412 0 rfl (Nat.le_of_ble_eq_true rfl)
        rw [nar_lat hlat_411] at q; exact q
      show Go p e below _ (T_412.setTop (mkF m 150 #[vI p0, vJ p1, .second, vI p2, vI p3, vI 2, vI pt, vI ed, vI cc, vR b386, vI nn, vU, vU] []))
      refine Go.step (fun _ k => XS.aload X_412.here hx rfl (hb hby at_150) rfl rfl k) ?_
      refine Go.step (fun _ k => XS.iconst X_412.here hx rfl (hb hby at_152) k) ?_
      refine Go.step (fun _ k => XS.lloadN X_412.here hx rfl (hb hby at_153) rfl  k) ?_
      refine Go.step (fun _ k => XS.iconst X_412.here hx rfl (hb hby at_154) k) ?_
      show Go p e below _ (T_412.setTop (mkF m 155 #[vI p0, vJ p1, .second, vI p2, vI p3, vI 2, vI pt, vI ed, vI cc, vR b386, vI nn, vU, vU] [(.int (1 : Int32)), (.long p1), (.int (1 : Int32)), (.ref b386)]))
      obtain ⟨v_414, T_414, L_414, X_414, hQ_414, st_414⟩ := goS X_412 hx hZ (y := Y_6) hown (wd_72 hw) (wd_73 hw) (wd_6 hw) (wd_74 hw) (by decide) (backOf (W := 2) (rm_ch l Z a0 hw zc va kv ea eb wa wb (p1) ((1 : Int32)) h_412 n0 (Nat.le_trans Z0 KP_412.1) hSt O_412) hZ (wd_74 hw) (wd_6 hw) (by decide) (by decide)) e_412 (g := (mkF m 155 #[vI p0, vJ p1, .second, vI p2, vI p3, vI 2, vI pt, vI ed, vI cc, vR b386, vI nn, vU, vU] [(.int (1 : Int32)), (.long p1), (.int (1 : Int32)), (.ref b386)])) rfl (by rw [hml]; rfl) (argsL := [(.long p1), (.int (1 : Int32))]) (rest := [(.int (1 : Int32)), (.ref b386)]) rfl (lenOf pd_6 rfl) rfl (by show 2 * 0 + _ ≤ _; exact Nat.le_of_eq rfl) (hb hby at_155) (by decide) (by decide)
      obtain ⟨v1_414, rfl, Nq_414, e_414, u0_414⟩ := hQ_414
      have N_414 := Fr.app N_412 Nq_414
      have hlat_414 := u0_414
      refine Go.step st_414 ?_
      show Go p e below _ (T_414.setTop (mkF m 158 #[vI p0, vJ p1, .second, vI p2, vI p3, vI 2, vI pt, vI ed, vI cc, vR b386, vI nn, vU, vU] [(.int v1_414), (.int (1 : Int32)), (.ref b386)]))
      have cp416 := V_412
      obtain ⟨cl_415, Ar_415, ck_415, Sz_415, Ng_415, Hs_415, Gs_415⟩ := cp416
      have hin_415 : ¬ ((1 : Int32) < 0 ∨ cl_415.slots.size ≤ ((1 : Int32)).toNatClampNeg) := inb_of Sz_415 ⟨by decide, by decide⟩
      obtain ⟨T_415, h_415, X_415, e_415, W_415, st_415⟩ := stC X_414 hx hZ e_414 Ar_415 (j := (1 : Int32)) hin_415 (g := (mkF m 158 #[vI p0, vJ p1, .second, vI p2, vI p3, vI 2, vI pt, vI ed, vI cc, vR b386, vI nn, vU, vU] [(.int v1_414), (.int (1 : Int32)), (.ref b386)])) rfl rfl (hb hby at_158)
      refine Go.step st_415 ?_
      have N_415 := Fr.snoc X_415 N_414 g_b386
      have C_415 := CHr.wr W_415 (Safe.arv hZ.alike V_412 (by decide)) C_412.1
      have CR_415 := CHr.trans CR_412 C_415
      have le_415 : h_412.size ≤ h_415.size := Nat.le_of_eq W_415.size.symm
      have KP_415 := KP_412.wr W_415 (Or.inr sz_b386)
      have O_415 := O_412.wr W_415 g_b386
      have V_415 : Arv Z h_415 b386 k_386 .char (8 : Int32) [(.int v1_411), (.int v1_414), (.int (0 : Int32)), (.int (0 : Int32)), (.int (0 : Int32)), (.int (0 : Int32)), (.int (0 : Int32)), (.int (0 : Int32))] (.int (0 : Int32)) := by
        have q := Arv.set Ar_415 ck_415 Sz_415 Ng_415 Hs_415 Gs_415 (fits_nar_char _) W_415 1 rfl (Nat.le_of_ble_eq_true rfl)
        rw [nar_lat hlat_414] at q; exact q
      show Go p e below _ (T_415.setTop (mkF m 159 #[vI p0, vJ p1, .second, vI p2, vI p3, vI 2, vI pt, vI ed, vI cc, vR b386, vI nn, vU, vU] []))
      refine Go.step (fun _ k => XS.aload X_415.here hx rfl (hb hby at_159) rfl rfl k) ?_
      refine Go.step (fun _ k => XS.iconst X_415.here hx rfl (hb hby at_161) k) ?_
      refine Go.step (fun _ k => XS.lloadN X_415.here hx rfl (hb hby at_162) rfl  k) ?_
      refine Go.step (fun _ k => XS.iconst X_415.here hx rfl (hb hby at_163) k) ?_
      show Go p e below _ (T_415.setTop (mkF m 164 #[vI p0, vJ p1, .second, vI p2, vI p3, vI 2, vI pt, vI ed, vI cc, vR b386, vI nn, vU, vU] [(.int (2 : Int32)), (.long p1), (.int (2 : Int32)), (.ref b386)]))
      obtain ⟨v_417, T_417, L_417, X_417, hQ_417, st_417⟩ := goS X_415 hx hZ (y := Y_6) hown (wd_72 hw) (wd_73 hw) (wd_6 hw) (wd_74 hw) (by decide) (backOf (W := 2) (rm_ch l Z a0 hw zc va kv ea eb wa wb (p1) ((2 : Int32)) h_415 n0 (Nat.le_trans Z0 KP_415.1) hSt O_415) hZ (wd_74 hw) (wd_6 hw) (by decide) (by decide)) e_415 (g := (mkF m 164 #[vI p0, vJ p1, .second, vI p2, vI p3, vI 2, vI pt, vI ed, vI cc, vR b386, vI nn, vU, vU] [(.int (2 : Int32)), (.long p1), (.int (2 : Int32)), (.ref b386)])) rfl (by rw [hml]; rfl) (argsL := [(.long p1), (.int (2 : Int32))]) (rest := [(.int (2 : Int32)), (.ref b386)]) rfl (lenOf pd_6 rfl) rfl (by show 2 * 0 + _ ≤ _; exact Nat.le_of_eq rfl) (hb hby at_164) (by decide) (by decide)
      obtain ⟨v1_417, rfl, Nq_417, e_417, u0_417⟩ := hQ_417
      have N_417 := Fr.app N_415 Nq_417
      have hlat_417 := u0_417
      refine Go.step st_417 ?_
      show Go p e below _ (T_417.setTop (mkF m 167 #[vI p0, vJ p1, .second, vI p2, vI p3, vI 2, vI pt, vI ed, vI cc, vR b386, vI nn, vU, vU] [(.int v1_417), (.int (2 : Int32)), (.ref b386)]))
      have cp419 := V_415
      obtain ⟨cl_418, Ar_418, ck_418, Sz_418, Ng_418, Hs_418, Gs_418⟩ := cp419
      have hin_418 : ¬ ((2 : Int32) < 0 ∨ cl_418.slots.size ≤ ((2 : Int32)).toNatClampNeg) := inb_of Sz_418 ⟨by decide, by decide⟩
      obtain ⟨T_418, h_418, X_418, e_418, W_418, st_418⟩ := stC X_417 hx hZ e_417 Ar_418 (j := (2 : Int32)) hin_418 (g := (mkF m 167 #[vI p0, vJ p1, .second, vI p2, vI p3, vI 2, vI pt, vI ed, vI cc, vR b386, vI nn, vU, vU] [(.int v1_417), (.int (2 : Int32)), (.ref b386)])) rfl rfl (hb hby at_167)
      refine Go.step st_418 ?_
      have N_418 := Fr.snoc X_418 N_417 g_b386
      have C_418 := CHr.wr W_418 (Safe.arv hZ.alike V_415 (by decide)) C_415.1
      have CR_418 := CHr.trans CR_415 C_418
      have le_418 : h_415.size ≤ h_418.size := Nat.le_of_eq W_418.size.symm
      have KP_418 := KP_415.wr W_418 (Or.inr sz_b386)
      have O_418 := O_415.wr W_418 g_b386
      have V_418 : Arv Z h_418 b386 k_386 .char (8 : Int32) [(.int v1_411), (.int v1_414), (.int v1_417), (.int (0 : Int32)), (.int (0 : Int32)), (.int (0 : Int32)), (.int (0 : Int32)), (.int (0 : Int32))] (.int (0 : Int32)) := by
        have q := Arv.set Ar_418 ck_418 Sz_418 Ng_418 Hs_418 Gs_418 (fits_nar_char _) W_418 2 rfl (Nat.le_of_ble_eq_true rfl)
        rw [nar_lat hlat_417] at q; exact q
      show Go p e below _ (T_418.setTop (mkF m 168 #[vI p0, vJ p1, .second, vI p2, vI p3, vI 2, vI pt, vI ed, vI cc, vR b386, vI nn, vU, vU] []))
      refine Go.step (fun _ k => XS.aload X_418.here hx rfl (hb hby at_168) rfl rfl k) ?_
      refine Go.step (fun _ k => XS.iconst X_418.here hx rfl (hb hby at_170) k) ?_
      refine Go.step (fun _ k => XS.lloadN X_418.here hx rfl (hb hby at_171) rfl  k) ?_
      refine Go.step (fun _ k => XS.iconst X_418.here hx rfl (hb hby at_172) k) ?_
      show Go p e below _ (T_418.setTop (mkF m 173 #[vI p0, vJ p1, .second, vI p2, vI p3, vI 2, vI pt, vI ed, vI cc, vR b386, vI nn, vU, vU] [(.int (3 : Int32)), (.long p1), (.int (3 : Int32)), (.ref b386)]))
      obtain ⟨v_420, T_420, L_420, X_420, hQ_420, st_420⟩ := goS X_418 hx hZ (y := Y_6) hown (wd_72 hw) (wd_73 hw) (wd_6 hw) (wd_74 hw) (by decide) (backOf (W := 2) (rm_ch l Z a0 hw zc va kv ea eb wa wb (p1) ((3 : Int32)) h_418 n0 (Nat.le_trans Z0 KP_418.1) hSt O_418) hZ (wd_74 hw) (wd_6 hw) (by decide) (by decide)) e_418 (g := (mkF m 173 #[vI p0, vJ p1, .second, vI p2, vI p3, vI 2, vI pt, vI ed, vI cc, vR b386, vI nn, vU, vU] [(.int (3 : Int32)), (.long p1), (.int (3 : Int32)), (.ref b386)])) rfl (by rw [hml]; rfl) (argsL := [(.long p1), (.int (3 : Int32))]) (rest := [(.int (3 : Int32)), (.ref b386)]) rfl (lenOf pd_6 rfl) rfl (by show 2 * 0 + _ ≤ _; exact Nat.le_of_eq rfl) (hb hby at_173) (by decide) (by decide)
      obtain ⟨v1_420, rfl, Nq_420, e_420, u0_420⟩ := hQ_420
      have N_420 := Fr.app N_418 Nq_420
      have hlat_420 := u0_420
      refine Go.step st_420 ?_
      show Go p e below _ (T_420.setTop (mkF m 176 #[vI p0, vJ p1, .second, vI p2, vI p3, vI 2, vI pt, vI ed, vI cc, vR b386, vI nn, vU, vU] [(.int v1_420), (.int (3 : Int32)), (.ref b386)]))
      have cp422 := V_418
      obtain ⟨cl_421, Ar_421, ck_421, Sz_421, Ng_421, Hs_421, Gs_421⟩ := cp422
      have hin_421 : ¬ ((3 : Int32) < 0 ∨ cl_421.slots.size ≤ ((3 : Int32)).toNatClampNeg) := inb_of Sz_421 ⟨by decide, by decide⟩
      obtain ⟨T_421, h_421, X_421, e_421, W_421, st_421⟩ := stC X_420 hx hZ e_420 Ar_421 (j := (3 : Int32)) hin_421 (g := (mkF m 176 #[vI p0, vJ p1, .second, vI p2, vI p3, vI 2, vI pt, vI ed, vI cc, vR b386, vI nn, vU, vU] [(.int v1_420), (.int (3 : Int32)), (.ref b386)])) rfl rfl (hb hby at_176)
      refine Go.step st_421 ?_
      have N_421 := Fr.snoc X_421 N_420 g_b386
      have C_421 := CHr.wr W_421 (Safe.arv hZ.alike V_418 (by decide)) C_418.1
      have CR_421 := CHr.trans CR_418 C_421
      have le_421 : h_418.size ≤ h_421.size := Nat.le_of_eq W_421.size.symm
      have KP_421 := KP_418.wr W_421 (Or.inr sz_b386)
      have O_421 := O_418.wr W_421 g_b386
      have V_421 : Arv Z h_421 b386 k_386 .char (8 : Int32) [(.int v1_411), (.int v1_414), (.int v1_417), (.int v1_420), (.int (0 : Int32)), (.int (0 : Int32)), (.int (0 : Int32)), (.int (0 : Int32))] (.int (0 : Int32)) := by
        have q := Arv.set Ar_421 ck_421 Sz_421 Ng_421 Hs_421 Gs_421 (fits_nar_char _) W_421 3 rfl (Nat.le_of_ble_eq_true rfl)
        rw [nar_lat hlat_420] at q; exact q
      show Go p e below _ (T_421.setTop (mkF m 177 #[vI p0, vJ p1, .second, vI p2, vI p3, vI 2, vI pt, vI ed, vI cc, vR b386, vI nn, vU, vU] []))
      refine Go.step (fun _ k => XS.aload X_421.here hx rfl (hb hby at_177) rfl rfl k) ?_
      refine Go.step (fun _ k => XS.iconst X_421.here hx rfl (hb hby at_179) k) ?_
      refine Go.step (fun _ k => XS.lloadN X_421.here hx rfl (hb hby at_180) rfl  k) ?_
      refine Go.step (fun _ k => XS.iconst X_421.here hx rfl (hb hby at_181) k) ?_
      show Go p e below _ (T_421.setTop (mkF m 182 #[vI p0, vJ p1, .second, vI p2, vI p3, vI 2, vI pt, vI ed, vI cc, vR b386, vI nn, vU, vU] [(.int (4 : Int32)), (.long p1), (.int (4 : Int32)), (.ref b386)]))
      obtain ⟨v_423, T_423, L_423, X_423, hQ_423, st_423⟩ := goS X_421 hx hZ (y := Y_6) hown (wd_72 hw) (wd_73 hw) (wd_6 hw) (wd_74 hw) (by decide) (backOf (W := 2) (rm_ch l Z a0 hw zc va kv ea eb wa wb (p1) ((4 : Int32)) h_421 n0 (Nat.le_trans Z0 KP_421.1) hSt O_421) hZ (wd_74 hw) (wd_6 hw) (by decide) (by decide)) e_421 (g := (mkF m 182 #[vI p0, vJ p1, .second, vI p2, vI p3, vI 2, vI pt, vI ed, vI cc, vR b386, vI nn, vU, vU] [(.int (4 : Int32)), (.long p1), (.int (4 : Int32)), (.ref b386)])) rfl (by rw [hml]; rfl) (argsL := [(.long p1), (.int (4 : Int32))]) (rest := [(.int (4 : Int32)), (.ref b386)]) rfl (lenOf pd_6 rfl) rfl (by show 2 * 0 + _ ≤ _; exact Nat.le_of_eq rfl) (hb hby at_182) (by decide) (by decide)
      obtain ⟨v1_423, rfl, Nq_423, e_423, u0_423⟩ := hQ_423
      have N_423 := Fr.app N_421 Nq_423
      have hlat_423 := u0_423
      refine Go.step st_423 ?_
      show Go p e below _ (T_423.setTop (mkF m 185 #[vI p0, vJ p1, .second, vI p2, vI p3, vI 2, vI pt, vI ed, vI cc, vR b386, vI nn, vU, vU] [(.int v1_423), (.int (4 : Int32)), (.ref b386)]))
      have cp425 := V_421
      obtain ⟨cl_424, Ar_424, ck_424, Sz_424, Ng_424, Hs_424, Gs_424⟩ := cp425
      have hin_424 : ¬ ((4 : Int32) < 0 ∨ cl_424.slots.size ≤ ((4 : Int32)).toNatClampNeg) := inb_of Sz_424 ⟨by decide, by decide⟩
      obtain ⟨T_424, h_424, X_424, e_424, W_424, st_424⟩ := stC X_423 hx hZ e_423 Ar_424 (j := (4 : Int32)) hin_424 (g := (mkF m 185 #[vI p0, vJ p1, .second, vI p2, vI p3, vI 2, vI pt, vI ed, vI cc, vR b386, vI nn, vU, vU] [(.int v1_423), (.int (4 : Int32)), (.ref b386)])) rfl rfl (hb hby at_185)
      refine Go.step st_424 ?_
      have N_424 := Fr.snoc X_424 N_423 g_b386
      have C_424 := CHr.wr W_424 (Safe.arv hZ.alike V_421 (by decide)) C_421.1
      have CR_424 := CHr.trans CR_421 C_424
      have le_424 : h_421.size ≤ h_424.size := Nat.le_of_eq W_424.size.symm
      have KP_424 := KP_421.wr W_424 (Or.inr sz_b386)
      have O_424 := O_421.wr W_424 g_b386
      have V_424 : Arv Z h_424 b386 k_386 .char (8 : Int32) [(.int v1_411), (.int v1_414), (.int v1_417), (.int v1_420), (.int v1_423), (.int (0 : Int32)), (.int (0 : Int32)), (.int (0 : Int32))] (.int (0 : Int32)) := by
        have q := Arv.set Ar_424 ck_424 Sz_424 Ng_424 Hs_424 Gs_424 (fits_nar_char _) W_424 4 rfl (Nat.le_of_ble_eq_true rfl)
        rw [nar_lat hlat_423] at q; exact q
      show Go p e below _ (T_424.setTop (mkF m 186 #[vI p0, vJ p1, .second, vI p2, vI p3, vI 2, vI pt, vI ed, vI cc, vR b386, vI nn, vU, vU] []))
      refine Go.step (fun _ k => XS.aload X_424.here hx rfl (hb hby at_186) rfl rfl k) ?_
      refine Go.step (fun _ k => XS.iconst X_424.here hx rfl (hb hby at_188) k) ?_
      refine Go.step (fun _ k => XS.lloadN X_424.here hx rfl (hb hby at_189) rfl  k) ?_
      refine Go.step (fun _ k => XS.iconst X_424.here hx rfl (hb hby at_190) k) ?_
      show Go p e below _ (T_424.setTop (mkF m 191 #[vI p0, vJ p1, .second, vI p2, vI p3, vI 2, vI pt, vI ed, vI cc, vR b386, vI nn, vU, vU] [(.int (5 : Int32)), (.long p1), (.int (5 : Int32)), (.ref b386)]))
      obtain ⟨v_426, T_426, L_426, X_426, hQ_426, st_426⟩ := goS X_424 hx hZ (y := Y_6) hown (wd_72 hw) (wd_73 hw) (wd_6 hw) (wd_74 hw) (by decide) (backOf (W := 2) (rm_ch l Z a0 hw zc va kv ea eb wa wb (p1) ((5 : Int32)) h_424 n0 (Nat.le_trans Z0 KP_424.1) hSt O_424) hZ (wd_74 hw) (wd_6 hw) (by decide) (by decide)) e_424 (g := (mkF m 191 #[vI p0, vJ p1, .second, vI p2, vI p3, vI 2, vI pt, vI ed, vI cc, vR b386, vI nn, vU, vU] [(.int (5 : Int32)), (.long p1), (.int (5 : Int32)), (.ref b386)])) rfl (by rw [hml]; rfl) (argsL := [(.long p1), (.int (5 : Int32))]) (rest := [(.int (5 : Int32)), (.ref b386)]) rfl (lenOf pd_6 rfl) rfl (by show 2 * 0 + _ ≤ _; exact Nat.le_of_eq rfl) (hb hby at_191) (by decide) (by decide)
      obtain ⟨v1_426, rfl, Nq_426, e_426, u0_426⟩ := hQ_426
      have N_426 := Fr.app N_424 Nq_426
      have hlat_426 := u0_426
      refine Go.step st_426 ?_
      show Go p e below _ (T_426.setTop (mkF m 194 #[vI p0, vJ p1, .second, vI p2, vI p3, vI 2, vI pt, vI ed, vI cc, vR b386, vI nn, vU, vU] [(.int v1_426), (.int (5 : Int32)), (.ref b386)]))
      have cp428 := V_424
      obtain ⟨cl_427, Ar_427, ck_427, Sz_427, Ng_427, Hs_427, Gs_427⟩ := cp428
      have hin_427 : ¬ ((5 : Int32) < 0 ∨ cl_427.slots.size ≤ ((5 : Int32)).toNatClampNeg) := inb_of Sz_427 ⟨by decide, by decide⟩
      obtain ⟨T_427, h_427, X_427, e_427, W_427, st_427⟩ := stC X_426 hx hZ e_426 Ar_427 (j := (5 : Int32)) hin_427 (g := (mkF m 194 #[vI p0, vJ p1, .second, vI p2, vI p3, vI 2, vI pt, vI ed, vI cc, vR b386, vI nn, vU, vU] [(.int v1_426), (.int (5 : Int32)), (.ref b386)])) rfl rfl (hb hby at_194)
      refine Go.step st_427 ?_
      have N_427 := Fr.snoc X_427 N_426 g_b386
      have C_427 := CHr.wr W_427 (Safe.arv hZ.alike V_424 (by decide)) C_424.1
      have CR_427 := CHr.trans CR_424 C_427
      have le_427 : h_424.size ≤ h_427.size := Nat.le_of_eq W_427.size.symm
      have KP_427 := KP_424.wr W_427 (Or.inr sz_b386)
      have O_427 := O_424.wr W_427 g_b386
      have V_427 : Arv Z h_427 b386 k_386 .char (8 : Int32) [(.int v1_411), (.int v1_414), (.int v1_417), (.int v1_420), (.int v1_423), (.int v1_426), (.int (0 : Int32)), (.int (0 : Int32))] (.int (0 : Int32)) := by
        have q := Arv.set Ar_427 ck_427 Sz_427 Ng_427 Hs_427 Gs_427 (fits_nar_char _) W_427 5 rfl (Nat.le_of_ble_eq_true rfl)
        rw [nar_lat hlat_426] at q; exact q
      show Go p e below _ (T_427.setTop (mkF m 195 #[vI p0, vJ p1, .second, vI p2, vI p3, vI 2, vI pt, vI ed, vI cc, vR b386, vI nn, vU, vU] []))
      refine Go.step (fun _ k => XS.aload X_427.here hx rfl (hb hby at_195) rfl rfl k) ?_
      refine Go.step (fun _ k => XS.bipush X_427.here hx rfl (hb hby at_197) k) ?_
      refine Go.step (fun _ k => XS.lloadN X_427.here hx rfl (hb hby at_199) rfl  k) ?_
      refine Go.step (fun _ k => XS.bipush X_427.here hx rfl (hb hby at_200) k) ?_
      show Go p e below _ (T_427.setTop (mkF m 202 #[vI p0, vJ p1, .second, vI p2, vI p3, vI 2, vI pt, vI ed, vI cc, vR b386, vI nn, vU, vU] [(.int (6 : Int32)), (.long p1), (.int (6 : Int32)), (.ref b386)]))
      obtain ⟨v_429, T_429, L_429, X_429, hQ_429, st_429⟩ := goS X_427 hx hZ (y := Y_6) hown (wd_72 hw) (wd_73 hw) (wd_6 hw) (wd_74 hw) (by decide) (backOf (W := 2) (rm_ch l Z a0 hw zc va kv ea eb wa wb (p1) ((6 : Int32)) h_427 n0 (Nat.le_trans Z0 KP_427.1) hSt O_427) hZ (wd_74 hw) (wd_6 hw) (by decide) (by decide)) e_427 (g := (mkF m 202 #[vI p0, vJ p1, .second, vI p2, vI p3, vI 2, vI pt, vI ed, vI cc, vR b386, vI nn, vU, vU] [(.int (6 : Int32)), (.long p1), (.int (6 : Int32)), (.ref b386)])) rfl (by rw [hml]; rfl) (argsL := [(.long p1), (.int (6 : Int32))]) (rest := [(.int (6 : Int32)), (.ref b386)]) rfl (lenOf pd_6 rfl) rfl (by show 2 * 0 + _ ≤ _; exact Nat.le_of_eq rfl) (hb hby at_202) (by decide) (by decide)
      obtain ⟨v1_429, rfl, Nq_429, e_429, u0_429⟩ := hQ_429
      have N_429 := Fr.app N_427 Nq_429
      have hlat_429 := u0_429
      refine Go.step st_429 ?_
      show Go p e below _ (T_429.setTop (mkF m 205 #[vI p0, vJ p1, .second, vI p2, vI p3, vI 2, vI pt, vI ed, vI cc, vR b386, vI nn, vU, vU] [(.int v1_429), (.int (6 : Int32)), (.ref b386)]))
      have cp431 := V_427
      obtain ⟨cl_430, Ar_430, ck_430, Sz_430, Ng_430, Hs_430, Gs_430⟩ := cp431
      have hin_430 : ¬ ((6 : Int32) < 0 ∨ cl_430.slots.size ≤ ((6 : Int32)).toNatClampNeg) := inb_of Sz_430 ⟨by decide, by decide⟩
      obtain ⟨T_430, h_430, X_430, e_430, W_430, st_430⟩ := stC X_429 hx hZ e_429 Ar_430 (j := (6 : Int32)) hin_430 (g := (mkF m 205 #[vI p0, vJ p1, .second, vI p2, vI p3, vI 2, vI pt, vI ed, vI cc, vR b386, vI nn, vU, vU] [(.int v1_429), (.int (6 : Int32)), (.ref b386)])) rfl rfl (hb hby at_205)
      refine Go.step st_430 ?_
      have N_430 := Fr.snoc X_430 N_429 g_b386
      have C_430 := CHr.wr W_430 (Safe.arv hZ.alike V_427 (by decide)) C_427.1
      have CR_430 := CHr.trans CR_427 C_430
      have le_430 : h_427.size ≤ h_430.size := Nat.le_of_eq W_430.size.symm
      have KP_430 := KP_427.wr W_430 (Or.inr sz_b386)
      have O_430 := O_427.wr W_430 g_b386
      have V_430 : Arv Z h_430 b386 k_386 .char (8 : Int32) [(.int v1_411), (.int v1_414), (.int v1_417), (.int v1_420), (.int v1_423), (.int v1_426), (.int v1_429), (.int (0 : Int32))] (.int (0 : Int32)) := by
        have q := Arv.set Ar_430 ck_430 Sz_430 Ng_430 Hs_430 Gs_430 (fits_nar_char _) W_430 6 rfl (Nat.le_of_ble_eq_true rfl)
        rw [nar_lat hlat_429] at q; exact q
      show Go p e below _ (T_430.setTop (mkF m 206 #[vI p0, vJ p1, .second, vI p2, vI p3, vI 2, vI pt, vI ed, vI cc, vR b386, vI nn, vU, vU] []))
      refine Go.step (fun _ k => XS.aconstNull X_430.here hx rfl (hb hby at_206) k) ?_
      show Go p e below _ (T_430.setTop (mkF m 207 #[vI p0, vJ p1, .second, vI p2, vI p3, vI 2, vI pt, vI ed, vI cc, vR b386, vI nn, vU, vU] [.null]))
      refine Go.step (fun _ k => XS.astore X_430.here hx rfl (hb hby at_207) rfl rfl (l' := #[vI p0, vJ p1, .second, vI p2, vI p3, vI 2, vI pt, vI ed, vI cc, vR b386, vI nn, .val .null, vU]) rfl k) ?_
      show Go p e below _ (T_430.setTop (mkF m 209 #[vI p0, vJ p1, .second, vI p2, vI p3, vI 2, vI pt, vI ed, vI cc, vR b386, vI nn, .val .null, vU] []))
      refine Go.step (fun _ k => XS.iload X_430.here hx rfl (hb hby at_209) rfl  k) ?_
      refine Go.step (fun _ k => XS.iconst X_430.here hx rfl (hb hby at_211) k) ?_
      show Go p e below _ (T_430.setTop (mkF m 212 #[vI p0, vJ p1, .second, vI p2, vI p3, vI 2, vI pt, vI ed, vI cc, vR b386, vI nn, .val .null, vU] [(.int (3 : Int32)), (.int (2 : Int32))]))
      refine Go.step (fun _ k => XS.icmpNo X_430.here hx rfl (hb hby at_212) rfl (feq ((by decide) : ¬ ((2 : Int32) = (3 : Int32)))).1 k) ?_
      show Go p e below _ (T_430.setTop (mkF m 215 #[vI p0, vJ p1, .second, vI p2, vI p3, vI 2, vI pt, vI ed, vI cc, vR b386, vI nn, .val .null, vU] []))
      refine sg_edit l Z a0 hw zc va kv ea eb wa wb ((vI p0)) ((vJ p1)) ((.second)) ((vI p3)) ((vI 2)) ((.val .null)) (p2) (pt) (ed) (cc) (b386) (k_386) (nn) (([v1_411, v1_414, v1_417, v1_420, v1_423, v1_426, v1_429, (0 : Int32)] : List Int32)) h_430 n0 (Nat.le_trans Z0 KP_430.1) V_430 g_b386 ⟨rfl, (latc hlat_411 (latc hlat_414 (latc hlat_417 (latc hlat_420 (latc hlat_423 (latc hlat_426 (latc hlat_429 (latc (by decide) lat0))))))))⟩ h_nn7 l_c hSt O_430 hx hby hml hZ hown X_430 e_430 N_430 (by decide) (by decide) ?_
      intro T_432 L_432 sl_432 n2_432 vs2_432 X_432 hQ_432
      obtain ⟨N_432, K_432, u0_432, u1_432⟩ := hQ_432
      have C_432 := CHr.keep K_432 (sfS (Safe.arv hZ.alike V_430 (by decide)) sf0) C_430.1
      have CR_432 := CHr.trans CR_430 C_432
      have le_432 : h_430.size ≤ T_432.heap.size := K_432.1
      have KP_432 := KP_430.trans K_432 (allS (Or.inr sz_b386) all0)
      have O_432 := O_430.keep K_432 (allS g_b386 all0)
      have hv2_432 := u1_432
      show Go p e below _ (T_432.setTop (mkF m 287 #[vI p0, vJ p1, .second, vI p2, vI p3, vI 2, vI pt, vI ed, vI cc, vR b386, vI n2_432, .val .null, sl_432] []))
      obtain ⟨⟨⟨hv_432, hl_432⟩, hn2_432⟩, hsl_432⟩ := hv2_432
      obtain ⟨c0_432, c1_432, c2_432, c3_432, c4_432, c5_432, c6_432, c7_432, rfl⟩ := list8 hv_432
      have l_c0_432 : ¬ c0_432 < 0 ∧ ¬ (255 : Int32) < c0_432 := hl_432 _ (by simp)
      have l_c1_432 : ¬ c1_432 < 0 ∧ ¬ (255 : Int32) < c1_432 := hl_432 _ (by simp)
      have l_c2_432 : ¬ c2_432 < 0 ∧ ¬ (255 : Int32) < c2_432 := hl_432 _ (by simp)
      have l_c3_432 : ¬ c3_432 < 0 ∧ ¬ (255 : Int32) < c3_432 := hl_432 _ (by simp)
      have l_c4_432 : ¬ c4_432 < 0 ∧ ¬ (255 : Int32) < c4_432 := hl_432 _ (by simp)
      have l_c5_432 : ¬ c5_432 < 0 ∧ ¬ (255 : Int32) < c5_432 := hl_432 _ (by simp)
      have l_c6_432 : ¬ c6_432 < 0 ∧ ¬ (255 : Int32) < c6_432 := hl_432 _ (by simp)
      have l_c7_432 : ¬ c7_432 < 0 ∧ ¬ (255 : Int32) < c7_432 := hl_432 _ (by simp)
      show Go p e below _ (T_432.setTop (mkF m 287 #[vI p0, vJ p1, .second, vI p2, vI p3, vI 2, vI pt, vI ed, vI cc, vR b386, vI n2_432, .val .null, sl_432] []))
      exact tg_tailC l Z a0 hw zc va kv ea eb wa wb ((vI p0)) ((vJ p1)) ((.second)) ((vI p2)) ((vI p3)) ((vI 2)) ((vI pt)) ((vI ed)) ((vI cc)) ((sl_432)) (n2_432) (b386) (k_386) (c0_432) (c1_432) (c2_432) (c3_432) (c4_432) (c5_432) (c6_432) (c7_432) T_432.heap n0 (Nat.le_trans Z0 KP_432.1) u0_432 l_c0_432 l_c1_432 l_c2_432 l_c3_432 l_c4_432 l_c5_432 l_c6_432 l_c7_432 hn2_432 hsl_432 hSt O_432 hx hby hml hret hlk hZ hown X_432 rfl N_432 hS0 (Nat.le_trans hk0 (Nat.le_trans le_386 (Nat.le_trans le_412 (Nat.le_trans le_415 (Nat.le_trans le_418 (Nat.le_trans le_421 (Nat.le_trans le_424 (Nat.le_trans le_427 (Nat.le_trans le_430 le_432))))))))) C_432.1 CR_432 hh0 (by decide) (by decide)
    · skip
      show Go p e below _ (T_386.setTop (mkF m 44 #[vI p0, vJ p1, .second, vI p2, vI p3, vI 3, vI pt, vI ed, vI cc, vR b386, vU, vU, vU] []))
      refine Go.step (fun _ k => XS.iload X_386.here hx rfl (hb hby at_44) rfl  k) ?_
      show Go p e below _ (T_386.setTop (mkF m 46 #[vI p0, vJ p1, .second, vI p2, vI p3, vI 3, vI pt, vI ed, vI cc, vR b386, vU, vU, vU] [(.int (3 : Int32))]))
      refine Go.step (fun _ k => XS.ifYes X_386.here hx rfl (pc0 := 46) (pc' := 85) rfl (hb hby at_46) rfl ((if0 _ _).trans (feq ((by decide) : ¬ ((3 : Int32) = (0 : Int32)))).2) (by decide) (by decide) k) ?_
      show Go p e below _ (T_386.setTop (mkF m 85 #[vI p0, vJ p1, .second, vI p2, vI p3, vI 3, vI pt, vI ed, vI cc, vR b386, vU, vU, vU] []))
      refine Go.step (fun _ k => XS.iload X_386.here hx rfl (hb hby at_85) rfl  k) ?_
      refine Go.step (fun _ k => XS.iconst X_386.here hx rfl (hb hby at_87) k) ?_
      show Go p e below _ (T_386.setTop (mkF m 88 #[vI p0, vJ p1, .second, vI p2, vI p3, vI 3, vI pt, vI ed, vI cc, vR b386, vU, vU, vU] [(.int (1 : Int32)), (.int (3 : Int32))]))
      refine Go.step (fun _ k => XS.icmpYes X_386.here hx rfl (pc0 := 88) (pc' := 134) rfl (hb hby at_88) rfl (feq ((by decide) : ¬ ((3 : Int32) = (1 : Int32)))).2 (by decide) (by decide) k) ?_
      show Go p e below _ (T_386.setTop (mkF m 134 #[vI p0, vJ p1, .second, vI p2, vI p3, vI 3, vI pt, vI ed, vI cc, vR b386, vU, vU, vU] []))
      refine Go.step (fun _ k => XS.iload X_386.here hx rfl (hb hby at_134) rfl  k) ?_
      refine Go.step (fun _ k => XS.bipush X_386.here hx rfl (hb hby at_136) k) ?_
      show Go p e below _ (T_386.setTop (mkF m 138 #[vI p0, vJ p1, .second, vI p2, vI p3, vI 3, vI pt, vI ed, vI cc, vR b386, vU, vU, vU] [(.int (7 : Int32)), (.int p3)]))
      refine Go.step (fun _ k => XS.iand X_386.here hx rfl (hb hby at_138) rfl k) ?_
      show Go p e below _ (T_386.setTop (mkF m 139 #[vI p0, vJ p1, .second, vI p2, vI p3, vI 3, vI pt, vI ed, vI cc, vR b386, vU, vU, vU] [(.int (p3 &&& (7 : Int32)))]))
      refine Go.step (fun _ k => XS.istore X_386.here hx rfl (hb hby at_139) rfl (l' := #[vI p0, vJ p1, .second, vI p2, vI p3, vI 3, vI pt, vI ed, vI cc, vR b386, vI (p3 &&& (7 : Int32)), vU, vU]) rfl k) ?_
      show Go p e below _ (T_386.setTop (mkF m 141 #[vI p0, vJ p1, .second, vI p2, vI p3, vI 3, vI pt, vI ed, vI cc, vR b386, vI (p3 &&& (7 : Int32)), vU, vU] []))
      obtain ⟨nn, h_nn⟩ : ∃ z, z = (p3 &&& (7 : Int32)) := ⟨_, rfl⟩
      rw [← h_nn]
      show Go p e below _ (T_386.setTop (mkF m 141 #[vI p0, vJ p1, .second, vI p2, vI p3, vI 3, vI pt, vI ed, vI cc, vR b386, vI nn, vU, vU] []))
      have h_nn7 : 0 ≤ nn.toInt ∧ nn.toInt ≤ 7 := by rw [h_nn]; exact and7 _
      show Go p e below _ (T_386.setTop (mkF m 141 #[vI p0, vJ p1, .second, vI p2, vI p3, vI 3, vI pt, vI ed, vI cc, vR b386, vI nn, vU, vU] []))
      refine Go.step (fun _ k => XS.aload X_386.here hx rfl (hb hby at_141) rfl rfl k) ?_
      refine Go.step (fun _ k => XS.iconst X_386.here hx rfl (hb hby at_143) k) ?_
      refine Go.step (fun _ k => XS.lloadN X_386.here hx rfl (hb hby at_144) rfl  k) ?_
      refine Go.step (fun _ k => XS.iconst X_386.here hx rfl (hb hby at_145) k) ?_
      show Go p e below _ (T_386.setTop (mkF m 146 #[vI p0, vJ p1, .second, vI p2, vI p3, vI 3, vI pt, vI ed, vI cc, vR b386, vI nn, vU, vU] [(.int (0 : Int32)), (.long p1), (.int (0 : Int32)), (.ref b386)]))
      obtain ⟨v_433, T_433, L_433, X_433, hQ_433, st_433⟩ := goS X_386 hx hZ (y := Y_6) hown (wd_72 hw) (wd_73 hw) (wd_6 hw) (wd_74 hw) (by decide) (backOf (W := 2) (rm_ch l Z a0 hw zc va kv ea eb wa wb (p1) ((0 : Int32)) h_386 n0 (Nat.le_trans Z0 KP_386.1) hSt O_386) hZ (wd_74 hw) (wd_6 hw) (by decide) (by decide)) e_386 (g := (mkF m 146 #[vI p0, vJ p1, .second, vI p2, vI p3, vI 3, vI pt, vI ed, vI cc, vR b386, vI nn, vU, vU] [(.int (0 : Int32)), (.long p1), (.int (0 : Int32)), (.ref b386)])) rfl (by rw [hml]; rfl) (argsL := [(.long p1), (.int (0 : Int32))]) (rest := [(.int (0 : Int32)), (.ref b386)]) rfl (lenOf pd_6 rfl) rfl (by show 2 * 0 + _ ≤ _; exact Nat.le_of_eq rfl) (hb hby at_146) (by decide) (by decide)
      obtain ⟨v1_433, rfl, Nq_433, e_433, u0_433⟩ := hQ_433
      have N_433 := Fr.app N0 Nq_433
      have hlat_433 := u0_433
      refine Go.step st_433 ?_
      show Go p e below _ (T_433.setTop (mkF m 149 #[vI p0, vJ p1, .second, vI p2, vI p3, vI 3, vI pt, vI ed, vI cc, vR b386, vI nn, vU, vU] [(.int v1_433), (.int (0 : Int32)), (.ref b386)]))
      have cp435 := V_386
      obtain ⟨cl_434, Ar_434, ck_434, Sz_434, Ng_434, Hs_434, Gs_434⟩ := cp435
      have hin_434 : ¬ ((0 : Int32) < 0 ∨ cl_434.slots.size ≤ ((0 : Int32)).toNatClampNeg) := inb_of Sz_434 ⟨by decide, by decide⟩
      obtain ⟨T_434, h_434, X_434, e_434, W_434, st_434⟩ := stC X_433 hx hZ e_433 Ar_434 (j := (0 : Int32)) hin_434 (g := (mkF m 149 #[vI p0, vJ p1, .second, vI p2, vI p3, vI 3, vI pt, vI ed, vI cc, vR b386, vI nn, vU, vU] [(.int v1_433), (.int (0 : Int32)), (.ref b386)])) rfl rfl (hb hby at_149)
      refine Go.step st_434 ?_
      have N_434 := Fr.snoc X_434 N_433 g_b386
      have C_434 := CHr.wr W_434 (Safe.arv hZ.alike V_386 (by decide)) C_386.1
      have CR_434 := CHr.trans CR_386 C_434
      have le_434 : h_386.size ≤ h_434.size := Nat.le_of_eq W_434.size.symm
      have KP_434 := KP_386.wr W_434 (Or.inr sz_b386)
      have O_434 := O_386.wr W_434 g_b386
      have V_434 : Arv Z h_434 b386 k_386 .char (8 : Int32) [(.int v1_433), (.int (0 : Int32)), (.int (0 : Int32)), (.int (0 : Int32)), (.int (0 : Int32)), (.int (0 : Int32)), (.int (0 : Int32)), (.int (0 : Int32))] (.int (0 : Int32)) := by
        have q := Arv.set Ar_434 ck_434 Sz_434 Ng_434 Hs_434 Gs_434 (fits_nar_char _) W_434 0 rfl (Nat.le_of_ble_eq_true rfl)
        rw [nar_lat hlat_433] at q; exact q
      show Go p e below _ (T_434.setTop (mkF m 150 #[vI p0, vJ p1, .second, vI p2, vI p3, vI 3, vI pt, vI ed, vI cc, vR b386, vI nn, vU, vU] []))
      refine Go.step (fun _ k => XS.aload X_434.here hx rfl (hb hby at_150) rfl rfl k) ?_
      refine Go.step (fun _ k => XS.iconst X_434.here hx rfl (hb hby at_152) k) ?_
      refine Go.step (fun _ k => XS.lloadN X_434.here hx rfl (hb hby at_153) rfl  k) ?_
      refine Go.step (fun _ k => XS.iconst X_434.here hx rfl (hb hby at_154) k) ?_
      show Go p e below _ (T_434.setTop (mkF m 155 #[vI p0, vJ p1, .second, vI p2, vI p3, vI 3, vI pt, vI ed, vI cc, vR b386, vI nn, vU, vU] [(.int (1 : Int32)), (.long p1), (.int (1 : Int32)), (.ref b386)]))
      obtain ⟨v_436, T_436, L_436, X_436, hQ_436, st_436⟩ := goS X_434 hx hZ (y := Y_6) hown (wd_72 hw) (wd_73 hw) (wd_6 hw) (wd_74 hw) (by decide) (backOf (W := 2) (rm_ch l Z a0 hw zc va kv ea eb wa wb (p1) ((1 : Int32)) h_434 n0 (Nat.le_trans Z0 KP_434.1) hSt O_434) hZ (wd_74 hw) (wd_6 hw) (by decide) (by decide)) e_434 (g := (mkF m 155 #[vI p0, vJ p1, .second, vI p2, vI p3, vI 3, vI pt, vI ed, vI cc, vR b386, vI nn, vU, vU] [(.int (1 : Int32)), (.long p1), (.int (1 : Int32)), (.ref b386)])) rfl (by rw [hml]; rfl) (argsL := [(.long p1), (.int (1 : Int32))]) (rest := [(.int (1 : Int32)), (.ref b386)]) rfl (lenOf pd_6 rfl) rfl (by show 2 * 0 + _ ≤ _; exact Nat.le_of_eq rfl) (hb hby at_155) (by decide) (by decide)
      obtain ⟨v1_436, rfl, Nq_436, e_436, u0_436⟩ := hQ_436
      have N_436 := Fr.app N_434 Nq_436
      have hlat_436 := u0_436
      refine Go.step st_436 ?_
      show Go p e below _ (T_436.setTop (mkF m 158 #[vI p0, vJ p1, .second, vI p2, vI p3, vI 3, vI pt, vI ed, vI cc, vR b386, vI nn, vU, vU] [(.int v1_436), (.int (1 : Int32)), (.ref b386)]))
      have cp438 := V_434
      obtain ⟨cl_437, Ar_437, ck_437, Sz_437, Ng_437, Hs_437, Gs_437⟩ := cp438
      have hin_437 : ¬ ((1 : Int32) < 0 ∨ cl_437.slots.size ≤ ((1 : Int32)).toNatClampNeg) := inb_of Sz_437 ⟨by decide, by decide⟩
      obtain ⟨T_437, h_437, X_437, e_437, W_437, st_437⟩ := stC X_436 hx hZ e_436 Ar_437 (j := (1 : Int32)) hin_437 (g := (mkF m 158 #[vI p0, vJ p1, .second, vI p2, vI p3, vI 3, vI pt, vI ed, vI cc, vR b386, vI nn, vU, vU] [(.int v1_436), (.int (1 : Int32)), (.ref b386)])) rfl rfl (hb hby at_158)
      refine Go.step st_437 ?_
      have N_437 := Fr.snoc X_437 N_436 g_b386
      have C_437 := CHr.wr W_437 (Safe.arv hZ.alike V_434 (by decide)) C_434.1
      have CR_437 := CHr.trans CR_434 C_437
      have le_437 : h_434.size ≤ h_437.size := Nat.le_of_eq W_437.size.symm
      have KP_437 := KP_434.wr W_437 (Or.inr sz_b386)
      have O_437 := O_434.wr W_437 g_b386
      have V_437 : Arv Z h_437 b386 k_386 .char (8 : Int32) [(.int v1_433), (.int v1_436), (.int (0 : Int32)), (.int (0 : Int32)), (.int (0 : Int32)), (.int (0 : Int32)), (.int (0 : Int32)), (.int (0 : Int32))] (.int (0 : Int32)) := by
        have q := Arv.set Ar_437 ck_437 Sz_437 Ng_437 Hs_437 Gs_437 (fits_nar_char _) W_437 1 rfl (Nat.le_of_ble_eq_true rfl)
        rw [nar_lat hlat_436] at q; exact q
      show Go p e below _ (T_437.setTop (mkF m 159 #[vI p0, vJ p1, .second, vI p2, vI p3, vI 3, vI pt, vI ed, vI cc, vR b386, vI nn, vU, vU] []))
      refine Go.step (fun _ k => XS.aload X_437.here hx rfl (hb hby at_159) rfl rfl k) ?_
      refine Go.step (fun _ k => XS.iconst X_437.here hx rfl (hb hby at_161) k) ?_
      refine Go.step (fun _ k => XS.lloadN X_437.here hx rfl (hb hby at_162) rfl  k) ?_
      refine Go.step (fun _ k => XS.iconst X_437.here hx rfl (hb hby at_163) k) ?_
      show Go p e below _ (T_437.setTop (mkF m 164 #[vI p0, vJ p1, .second, vI p2, vI p3, vI 3, vI pt, vI ed, vI cc, vR b386, vI nn, vU, vU] [(.int (2 : Int32)), (.long p1), (.int (2 : Int32)), (.ref b386)]))
      obtain ⟨v_439, T_439, L_439, X_439, hQ_439, st_439⟩ := goS X_437 hx hZ (y := Y_6) hown (wd_72 hw) (wd_73 hw) (wd_6 hw) (wd_74 hw) (by decide) (backOf (W := 2) (rm_ch l Z a0 hw zc va kv ea eb wa wb (p1) ((2 : Int32)) h_437 n0 (Nat.le_trans Z0 KP_437.1) hSt O_437) hZ (wd_74 hw) (wd_6 hw) (by decide) (by decide)) e_437 (g := (mkF m 164 #[vI p0, vJ p1, .second, vI p2, vI p3, vI 3, vI pt, vI ed, vI cc, vR b386, vI nn, vU, vU] [(.int (2 : Int32)), (.long p1), (.int (2 : Int32)), (.ref b386)])) rfl (by rw [hml]; rfl) (argsL := [(.long p1), (.int (2 : Int32))]) (rest := [(.int (2 : Int32)), (.ref b386)]) rfl (lenOf pd_6 rfl) rfl (by show 2 * 0 + _ ≤ _; exact Nat.le_of_eq rfl) (hb hby at_164) (by decide) (by decide)
      obtain ⟨v1_439, rfl, Nq_439, e_439, u0_439⟩ := hQ_439
      have N_439 := Fr.app N_437 Nq_439
      have hlat_439 := u0_439
      refine Go.step st_439 ?_
      show Go p e below _ (T_439.setTop (mkF m 167 #[vI p0, vJ p1, .second, vI p2, vI p3, vI 3, vI pt, vI ed, vI cc, vR b386, vI nn, vU, vU] [(.int v1_439), (.int (2 : Int32)), (.ref b386)]))
      have cp441 := V_437
      obtain ⟨cl_440, Ar_440, ck_440, Sz_440, Ng_440, Hs_440, Gs_440⟩ := cp441
      have hin_440 : ¬ ((2 : Int32) < 0 ∨ cl_440.slots.size ≤ ((2 : Int32)).toNatClampNeg) := inb_of Sz_440 ⟨by decide, by decide⟩
      obtain ⟨T_440, h_440, X_440, e_440, W_440, st_440⟩ := stC X_439 hx hZ e_439 Ar_440 (j := (2 : Int32)) hin_440 (g := (mkF m 167 #[vI p0, vJ p1, .second, vI p2, vI p3, vI 3, vI pt, vI ed, vI cc, vR b386, vI nn, vU, vU] [(.int v1_439), (.int (2 : Int32)), (.ref b386)])) rfl rfl (hb hby at_167)
      refine Go.step st_440 ?_
      have N_440 := Fr.snoc X_440 N_439 g_b386
      have C_440 := CHr.wr W_440 (Safe.arv hZ.alike V_437 (by decide)) C_437.1
      have CR_440 := CHr.trans CR_437 C_440
      have le_440 : h_437.size ≤ h_440.size := Nat.le_of_eq W_440.size.symm
      have KP_440 := KP_437.wr W_440 (Or.inr sz_b386)
      have O_440 := O_437.wr W_440 g_b386
      have V_440 : Arv Z h_440 b386 k_386 .char (8 : Int32) [(.int v1_433), (.int v1_436), (.int v1_439), (.int (0 : Int32)), (.int (0 : Int32)), (.int (0 : Int32)), (.int (0 : Int32)), (.int (0 : Int32))] (.int (0 : Int32)) := by
        have q := Arv.set Ar_440 ck_440 Sz_440 Ng_440 Hs_440 Gs_440 (fits_nar_char _) W_440 2 rfl (Nat.le_of_ble_eq_true rfl)
        rw [nar_lat hlat_439] at q; exact q
      show Go p e below _ (T_440.setTop (mkF m 168 #[vI p0, vJ p1, .second, vI p2, vI p3, vI 3, vI pt, vI ed, vI cc, vR b386, vI nn, vU, vU] []))
      refine Go.step (fun _ k => XS.aload X_440.here hx rfl (hb hby at_168) rfl rfl k) ?_
      refine Go.step (fun _ k => XS.iconst X_440.here hx rfl (hb hby at_170) k) ?_
      refine Go.step (fun _ k => XS.lloadN X_440.here hx rfl (hb hby at_171) rfl  k) ?_
      refine Go.step (fun _ k => XS.iconst X_440.here hx rfl (hb hby at_172) k) ?_
      show Go p e below _ (T_440.setTop (mkF m 173 #[vI p0, vJ p1, .second, vI p2, vI p3, vI 3, vI pt, vI ed, vI cc, vR b386, vI nn, vU, vU] [(.int (3 : Int32)), (.long p1), (.int (3 : Int32)), (.ref b386)]))
      obtain ⟨v_442, T_442, L_442, X_442, hQ_442, st_442⟩ := goS X_440 hx hZ (y := Y_6) hown (wd_72 hw) (wd_73 hw) (wd_6 hw) (wd_74 hw) (by decide) (backOf (W := 2) (rm_ch l Z a0 hw zc va kv ea eb wa wb (p1) ((3 : Int32)) h_440 n0 (Nat.le_trans Z0 KP_440.1) hSt O_440) hZ (wd_74 hw) (wd_6 hw) (by decide) (by decide)) e_440 (g := (mkF m 173 #[vI p0, vJ p1, .second, vI p2, vI p3, vI 3, vI pt, vI ed, vI cc, vR b386, vI nn, vU, vU] [(.int (3 : Int32)), (.long p1), (.int (3 : Int32)), (.ref b386)])) rfl (by rw [hml]; rfl) (argsL := [(.long p1), (.int (3 : Int32))]) (rest := [(.int (3 : Int32)), (.ref b386)]) rfl (lenOf pd_6 rfl) rfl (by show 2 * 0 + _ ≤ _; exact Nat.le_of_eq rfl) (hb hby at_173) (by decide) (by decide)
      obtain ⟨v1_442, rfl, Nq_442, e_442, u0_442⟩ := hQ_442
      have N_442 := Fr.app N_440 Nq_442
      have hlat_442 := u0_442
      refine Go.step st_442 ?_
      show Go p e below _ (T_442.setTop (mkF m 176 #[vI p0, vJ p1, .second, vI p2, vI p3, vI 3, vI pt, vI ed, vI cc, vR b386, vI nn, vU, vU] [(.int v1_442), (.int (3 : Int32)), (.ref b386)]))
      have cp444 := V_440
      obtain ⟨cl_443, Ar_443, ck_443, Sz_443, Ng_443, Hs_443, Gs_443⟩ := cp444
      have hin_443 : ¬ ((3 : Int32) < 0 ∨ cl_443.slots.size ≤ ((3 : Int32)).toNatClampNeg) := inb_of Sz_443 ⟨by decide, by decide⟩
      obtain ⟨T_443, h_443, X_443, e_443, W_443, st_443⟩ := stC X_442 hx hZ e_442 Ar_443 (j := (3 : Int32)) hin_443 (g := (mkF m 176 #[vI p0, vJ p1, .second, vI p2, vI p3, vI 3, vI pt, vI ed, vI cc, vR b386, vI nn, vU, vU] [(.int v1_442), (.int (3 : Int32)), (.ref b386)])) rfl rfl (hb hby at_176)
      refine Go.step st_443 ?_
      have N_443 := Fr.snoc X_443 N_442 g_b386
      have C_443 := CHr.wr W_443 (Safe.arv hZ.alike V_440 (by decide)) C_440.1
      have CR_443 := CHr.trans CR_440 C_443
      have le_443 : h_440.size ≤ h_443.size := Nat.le_of_eq W_443.size.symm
      have KP_443 := KP_440.wr W_443 (Or.inr sz_b386)
      have O_443 := O_440.wr W_443 g_b386
      have V_443 : Arv Z h_443 b386 k_386 .char (8 : Int32) [(.int v1_433), (.int v1_436), (.int v1_439), (.int v1_442), (.int (0 : Int32)), (.int (0 : Int32)), (.int (0 : Int32)), (.int (0 : Int32))] (.int (0 : Int32)) := by
        have q := Arv.set Ar_443 ck_443 Sz_443 Ng_443 Hs_443 Gs_443 (fits_nar_char _) W_443 3 rfl (Nat.le_of_ble_eq_true rfl)
        rw [nar_lat hlat_442] at q; exact q
      show Go p e below _ (T_443.setTop (mkF m 177 #[vI p0, vJ p1, .second, vI p2, vI p3, vI 3, vI pt, vI ed, vI cc, vR b386, vI nn, vU, vU] []))
      refine Go.step (fun _ k => XS.aload X_443.here hx rfl (hb hby at_177) rfl rfl k) ?_
      refine Go.step (fun _ k => XS.iconst X_443.here hx rfl (hb hby at_179) k) ?_
      refine Go.step (fun _ k => XS.lloadN X_443.here hx rfl (hb hby at_180) rfl  k) ?_
      refine Go.step (fun _ k => XS.iconst X_443.here hx rfl (hb hby at_181) k) ?_
      show Go p e below _ (T_443.setTop (mkF m 182 #[vI p0, vJ p1, .second, vI p2, vI p3, vI 3, vI pt, vI ed, vI cc, vR b386, vI nn, vU, vU] [(.int (4 : Int32)), (.long p1), (.int (4 : Int32)), (.ref b386)]))
      obtain ⟨v_445, T_445, L_445, X_445, hQ_445, st_445⟩ := goS X_443 hx hZ (y := Y_6) hown (wd_72 hw) (wd_73 hw) (wd_6 hw) (wd_74 hw) (by decide) (backOf (W := 2) (rm_ch l Z a0 hw zc va kv ea eb wa wb (p1) ((4 : Int32)) h_443 n0 (Nat.le_trans Z0 KP_443.1) hSt O_443) hZ (wd_74 hw) (wd_6 hw) (by decide) (by decide)) e_443 (g := (mkF m 182 #[vI p0, vJ p1, .second, vI p2, vI p3, vI 3, vI pt, vI ed, vI cc, vR b386, vI nn, vU, vU] [(.int (4 : Int32)), (.long p1), (.int (4 : Int32)), (.ref b386)])) rfl (by rw [hml]; rfl) (argsL := [(.long p1), (.int (4 : Int32))]) (rest := [(.int (4 : Int32)), (.ref b386)]) rfl (lenOf pd_6 rfl) rfl (by show 2 * 0 + _ ≤ _; exact Nat.le_of_eq rfl) (hb hby at_182) (by decide) (by decide)
      obtain ⟨v1_445, rfl, Nq_445, e_445, u0_445⟩ := hQ_445
      have N_445 := Fr.app N_443 Nq_445
      have hlat_445 := u0_445
      refine Go.step st_445 ?_
      show Go p e below _ (T_445.setTop (mkF m 185 #[vI p0, vJ p1, .second, vI p2, vI p3, vI 3, vI pt, vI ed, vI cc, vR b386, vI nn, vU, vU] [(.int v1_445), (.int (4 : Int32)), (.ref b386)]))
      have cp447 := V_443
      obtain ⟨cl_446, Ar_446, ck_446, Sz_446, Ng_446, Hs_446, Gs_446⟩ := cp447
      have hin_446 : ¬ ((4 : Int32) < 0 ∨ cl_446.slots.size ≤ ((4 : Int32)).toNatClampNeg) := inb_of Sz_446 ⟨by decide, by decide⟩
      obtain ⟨T_446, h_446, X_446, e_446, W_446, st_446⟩ := stC X_445 hx hZ e_445 Ar_446 (j := (4 : Int32)) hin_446 (g := (mkF m 185 #[vI p0, vJ p1, .second, vI p2, vI p3, vI 3, vI pt, vI ed, vI cc, vR b386, vI nn, vU, vU] [(.int v1_445), (.int (4 : Int32)), (.ref b386)])) rfl rfl (hb hby at_185)
      refine Go.step st_446 ?_
      have N_446 := Fr.snoc X_446 N_445 g_b386
      have C_446 := CHr.wr W_446 (Safe.arv hZ.alike V_443 (by decide)) C_443.1
      have CR_446 := CHr.trans CR_443 C_446
      have le_446 : h_443.size ≤ h_446.size := Nat.le_of_eq W_446.size.symm
      have KP_446 := KP_443.wr W_446 (Or.inr sz_b386)
      have O_446 := O_443.wr W_446 g_b386
      have V_446 : Arv Z h_446 b386 k_386 .char (8 : Int32) [(.int v1_433), (.int v1_436), (.int v1_439), (.int v1_442), (.int v1_445), (.int (0 : Int32)), (.int (0 : Int32)), (.int (0 : Int32))] (.int (0 : Int32)) := by
        have q := Arv.set Ar_446 ck_446 Sz_446 Ng_446 Hs_446 Gs_446 (fits_nar_char _) W_446 4 rfl (Nat.le_of_ble_eq_true rfl)
        rw [nar_lat hlat_445] at q; exact q
      show Go p e below _ (T_446.setTop (mkF m 186 #[vI p0, vJ p1, .second, vI p2, vI p3, vI 3, vI pt, vI ed, vI cc, vR b386, vI nn, vU, vU] []))
      refine Go.step (fun _ k => XS.aload X_446.here hx rfl (hb hby at_186) rfl rfl k) ?_
      refine Go.step (fun _ k => XS.iconst X_446.here hx rfl (hb hby at_188) k) ?_
      refine Go.step (fun _ k => XS.lloadN X_446.here hx rfl (hb hby at_189) rfl  k) ?_
      refine Go.step (fun _ k => XS.iconst X_446.here hx rfl (hb hby at_190) k) ?_
      show Go p e below _ (T_446.setTop (mkF m 191 #[vI p0, vJ p1, .second, vI p2, vI p3, vI 3, vI pt, vI ed, vI cc, vR b386, vI nn, vU, vU] [(.int (5 : Int32)), (.long p1), (.int (5 : Int32)), (.ref b386)]))
      obtain ⟨v_448, T_448, L_448, X_448, hQ_448, st_448⟩ := goS X_446 hx hZ (y := Y_6) hown (wd_72 hw) (wd_73 hw) (wd_6 hw) (wd_74 hw) (by decide) (backOf (W := 2) (rm_ch l Z a0 hw zc va kv ea eb wa wb (p1) ((5 : Int32)) h_446 n0 (Nat.le_trans Z0 KP_446.1) hSt O_446) hZ (wd_74 hw) (wd_6 hw) (by decide) (by decide)) e_446 (g := (mkF m 191 #[vI p0, vJ p1, .second, vI p2, vI p3, vI 3, vI pt, vI ed, vI cc, vR b386, vI nn, vU, vU] [(.int (5 : Int32)), (.long p1), (.int (5 : Int32)), (.ref b386)])) rfl (by rw [hml]; rfl) (argsL := [(.long p1), (.int (5 : Int32))]) (rest := [(.int (5 : Int32)), (.ref b386)]) rfl (lenOf pd_6 rfl) rfl (by show 2 * 0 + _ ≤ _; exact Nat.le_of_eq rfl) (hb hby at_191) (by decide) (by decide)
      obtain ⟨v1_448, rfl, Nq_448, e_448, u0_448⟩ := hQ_448
      have N_448 := Fr.app N_446 Nq_448
      have hlat_448 := u0_448
      refine Go.step st_448 ?_
      show Go p e below _ (T_448.setTop (mkF m 194 #[vI p0, vJ p1, .second, vI p2, vI p3, vI 3, vI pt, vI ed, vI cc, vR b386, vI nn, vU, vU] [(.int v1_448), (.int (5 : Int32)), (.ref b386)]))
      have cp450 := V_446
      obtain ⟨cl_449, Ar_449, ck_449, Sz_449, Ng_449, Hs_449, Gs_449⟩ := cp450
      have hin_449 : ¬ ((5 : Int32) < 0 ∨ cl_449.slots.size ≤ ((5 : Int32)).toNatClampNeg) := inb_of Sz_449 ⟨by decide, by decide⟩
      obtain ⟨T_449, h_449, X_449, e_449, W_449, st_449⟩ := stC X_448 hx hZ e_448 Ar_449 (j := (5 : Int32)) hin_449 (g := (mkF m 194 #[vI p0, vJ p1, .second, vI p2, vI p3, vI 3, vI pt, vI ed, vI cc, vR b386, vI nn, vU, vU] [(.int v1_448), (.int (5 : Int32)), (.ref b386)])) rfl rfl (hb hby at_194)
      refine Go.step st_449 ?_
      have N_449 := Fr.snoc X_449 N_448 g_b386
      have C_449 := CHr.wr W_449 (Safe.arv hZ.alike V_446 (by decide)) C_446.1
      have CR_449 := CHr.trans CR_446 C_449
      have le_449 : h_446.size ≤ h_449.size := Nat.le_of_eq W_449.size.symm
      have KP_449 := KP_446.wr W_449 (Or.inr sz_b386)
      have O_449 := O_446.wr W_449 g_b386
      have V_449 : Arv Z h_449 b386 k_386 .char (8 : Int32) [(.int v1_433), (.int v1_436), (.int v1_439), (.int v1_442), (.int v1_445), (.int v1_448), (.int (0 : Int32)), (.int (0 : Int32))] (.int (0 : Int32)) := by
        have q := Arv.set Ar_449 ck_449 Sz_449 Ng_449 Hs_449 Gs_449 (fits_nar_char _) W_449 5 rfl (Nat.le_of_ble_eq_true rfl)
        rw [nar_lat hlat_448] at q; exact q
      show Go p e below _ (T_449.setTop (mkF m 195 #[vI p0, vJ p1, .second, vI p2, vI p3, vI 3, vI pt, vI ed, vI cc, vR b386, vI nn, vU, vU] []))
      refine Go.step (fun _ k => XS.aload X_449.here hx rfl (hb hby at_195) rfl rfl k) ?_
      refine Go.step (fun _ k => XS.bipush X_449.here hx rfl (hb hby at_197) k) ?_
      refine Go.step (fun _ k => XS.lloadN X_449.here hx rfl (hb hby at_199) rfl  k) ?_
      refine Go.step (fun _ k => XS.bipush X_449.here hx rfl (hb hby at_200) k) ?_
      show Go p e below _ (T_449.setTop (mkF m 202 #[vI p0, vJ p1, .second, vI p2, vI p3, vI 3, vI pt, vI ed, vI cc, vR b386, vI nn, vU, vU] [(.int (6 : Int32)), (.long p1), (.int (6 : Int32)), (.ref b386)]))
      obtain ⟨v_451, T_451, L_451, X_451, hQ_451, st_451⟩ := goS X_449 hx hZ (y := Y_6) hown (wd_72 hw) (wd_73 hw) (wd_6 hw) (wd_74 hw) (by decide) (backOf (W := 2) (rm_ch l Z a0 hw zc va kv ea eb wa wb (p1) ((6 : Int32)) h_449 n0 (Nat.le_trans Z0 KP_449.1) hSt O_449) hZ (wd_74 hw) (wd_6 hw) (by decide) (by decide)) e_449 (g := (mkF m 202 #[vI p0, vJ p1, .second, vI p2, vI p3, vI 3, vI pt, vI ed, vI cc, vR b386, vI nn, vU, vU] [(.int (6 : Int32)), (.long p1), (.int (6 : Int32)), (.ref b386)])) rfl (by rw [hml]; rfl) (argsL := [(.long p1), (.int (6 : Int32))]) (rest := [(.int (6 : Int32)), (.ref b386)]) rfl (lenOf pd_6 rfl) rfl (by show 2 * 0 + _ ≤ _; exact Nat.le_of_eq rfl) (hb hby at_202) (by decide) (by decide)
      obtain ⟨v1_451, rfl, Nq_451, e_451, u0_451⟩ := hQ_451
      have N_451 := Fr.app N_449 Nq_451
      have hlat_451 := u0_451
      refine Go.step st_451 ?_
      show Go p e below _ (T_451.setTop (mkF m 205 #[vI p0, vJ p1, .second, vI p2, vI p3, vI 3, vI pt, vI ed, vI cc, vR b386, vI nn, vU, vU] [(.int v1_451), (.int (6 : Int32)), (.ref b386)]))
      have cp453 := V_449
      obtain ⟨cl_452, Ar_452, ck_452, Sz_452, Ng_452, Hs_452, Gs_452⟩ := cp453
      have hin_452 : ¬ ((6 : Int32) < 0 ∨ cl_452.slots.size ≤ ((6 : Int32)).toNatClampNeg) := inb_of Sz_452 ⟨by decide, by decide⟩
      obtain ⟨T_452, h_452, X_452, e_452, W_452, st_452⟩ := stC X_451 hx hZ e_451 Ar_452 (j := (6 : Int32)) hin_452 (g := (mkF m 205 #[vI p0, vJ p1, .second, vI p2, vI p3, vI 3, vI pt, vI ed, vI cc, vR b386, vI nn, vU, vU] [(.int v1_451), (.int (6 : Int32)), (.ref b386)])) rfl rfl (hb hby at_205)
      refine Go.step st_452 ?_
      have N_452 := Fr.snoc X_452 N_451 g_b386
      have C_452 := CHr.wr W_452 (Safe.arv hZ.alike V_449 (by decide)) C_449.1
      have CR_452 := CHr.trans CR_449 C_452
      have le_452 : h_449.size ≤ h_452.size := Nat.le_of_eq W_452.size.symm
      have KP_452 := KP_449.wr W_452 (Or.inr sz_b386)
      have O_452 := O_449.wr W_452 g_b386
      have V_452 : Arv Z h_452 b386 k_386 .char (8 : Int32) [(.int v1_433), (.int v1_436), (.int v1_439), (.int v1_442), (.int v1_445), (.int v1_448), (.int v1_451), (.int (0 : Int32))] (.int (0 : Int32)) := by
        have q := Arv.set Ar_452 ck_452 Sz_452 Ng_452 Hs_452 Gs_452 (fits_nar_char _) W_452 6 rfl (Nat.le_of_ble_eq_true rfl)
        rw [nar_lat hlat_451] at q; exact q
      show Go p e below _ (T_452.setTop (mkF m 206 #[vI p0, vJ p1, .second, vI p2, vI p3, vI 3, vI pt, vI ed, vI cc, vR b386, vI nn, vU, vU] []))
      refine Go.step (fun _ k => XS.aconstNull X_452.here hx rfl (hb hby at_206) k) ?_
      show Go p e below _ (T_452.setTop (mkF m 207 #[vI p0, vJ p1, .second, vI p2, vI p3, vI 3, vI pt, vI ed, vI cc, vR b386, vI nn, vU, vU] [.null]))
      refine Go.step (fun _ k => XS.astore X_452.here hx rfl (hb hby at_207) rfl rfl (l' := #[vI p0, vJ p1, .second, vI p2, vI p3, vI 3, vI pt, vI ed, vI cc, vR b386, vI nn, .val .null, vU]) rfl k) ?_
      show Go p e below _ (T_452.setTop (mkF m 209 #[vI p0, vJ p1, .second, vI p2, vI p3, vI 3, vI pt, vI ed, vI cc, vR b386, vI nn, .val .null, vU] []))
      refine Go.step (fun _ k => XS.iload X_452.here hx rfl (hb hby at_209) rfl  k) ?_
      refine Go.step (fun _ k => XS.iconst X_452.here hx rfl (hb hby at_211) k) ?_
      show Go p e below _ (T_452.setTop (mkF m 212 #[vI p0, vJ p1, .second, vI p2, vI p3, vI 3, vI pt, vI ed, vI cc, vR b386, vI nn, .val .null, vU] [(.int (3 : Int32)), (.int (3 : Int32))]))
      refine Go.step (fun _ k => XS.icmpYes X_452.here hx rfl (pc0 := 212) (pc' := 303) rfl (hb hby at_212) rfl (teq ((by decide) : (3 : Int32) = (3 : Int32))).1 (by decide) (by decide) k) ?_
      show Go p e below _ (T_452.setTop (mkF m 303 #[vI p0, vJ p1, .second, vI p2, vI p3, vI 3, vI pt, vI ed, vI cc, vR b386, vI nn, .val .null, vU] []))
      exact tg_tailN l Z a0 hw zc va kv ea eb wa wb ((vI p0)) ((vJ p1)) ((.second)) ((vI p2)) ((vI p3)) ((vI 3)) ((vI pt)) ((vI ed)) ((vI cc)) ((vR b386)) ((vI nn)) h_452 n0 (Nat.le_trans Z0 KP_452.1) hSt O_452 hx hby hml hret hlk hZ hown X_452 e_452 N_452 hS0 (Nat.le_trans hk0 (Nat.le_trans le_386 (Nat.le_trans le_434 (Nat.le_trans le_437 (Nat.le_trans le_440 (Nat.le_trans le_443 (Nat.le_trans le_446 (Nat.le_trans le_449 le_452)))))))) C_452.1 CR_452 hh0 (by decide) (by decide)
--@E
set_option maxRecDepth 65536 in
set_option maxHeartbeats 40000000 in
theorem comes_1 {Post : Tables → Env → Array Value → State → Outcome → State → Prop} (hpost : ∀ tb e args s v u, (limb_1_1.after args s (.returned v) u = true ∧ limb_1_2.after args s (.returned v) u = true ∧ True) → ReturnedEndW s (.returned v) u (Jvm.fieldLocs frame_1_writes args s ++ Jvm.arrayLocs frame_1_arrays args s ++ Jvm.staticLocs frame_1_statics s) 24 3264 → Post tb e args s (.returned v) u) :
    ArmFor flags0 classFile x code maxLocals ret World_1 tables_1 room_1 Calls_1 rest_1 Pre_1 Post := by
  intro l hfl _ _ p e ha hc hk s m args below hf hA hF happ hP
  obtain ⟨hcalls, hrest, hpre⟩ := hP
  obtain ⟨-, -, -, hnamed, -, -, -, hat⟩ := (Spec.applies_iff hf).mp happ
  obtain ⟨hg, hn⟩ := and_e (Cond.before_iff.mp (show (Jvm.Cond.and given_1 narrow_1).before args s = true from hpre))
  obtain ⟨g_c, g_0⟩ := and_e hg
  obtain ⟨ga_0, g_1⟩ := and_e g_0
  obtain ⟨ga_1, g_2⟩ := and_e g_1
  obtain ⟨ga_2, g_3⟩ := and_e g_2
  have ga_3 := g_3
  obtain ⟨w0, w1, w2, w3, rfl⟩ : ∃ w0 w1 w2 w3 : Value, args = #[w0, w1, w2, w3] := by
    have hs : args.size = 4 := by simpa [Cond.value, given_1] using g_c
    obtain ⟨L⟩ := args
    match L, hs with
    | [w0, w1, w2, w3], _ => exact ⟨w0, w1, w2, w3, rfl⟩
  have hw := fun d (hd : d ∈ tables_1) => atoms_spec (ws := Jvm.Cond.code x code maxLocals ret :: tables_1) hat d (List.mem_cons_of_mem _ hd)
  obtain ⟨hsets, hown0⟩ := atoms_of _ (rest_1_c_eq ▸ (show rest_1_c.before _ s = true from hrest))
  obtain ⟨i0, ei0⟩ := is_v ga_0
  obtain rfl : w0 = (.int i0) := Option.some.inj ei0
  obtain ⟨i1, ei1⟩ := isL_v ga_1
  obtain rfl : w1 = (.long i1) := Option.some.inj ei1
  obtain ⟨i2, ei2⟩ := is_v ga_2
  obtain rfl : w2 = (.int i2) := Option.some.inj ei2
  obtain ⟨i3, ei3⟩ := is_v ga_3
  obtain rfl : w3 = (.int i3) := Option.some.inj ei3
  have hs := fun (k : Nat) (d : Jvm.Cond) (h : jdkStatics_1[k]? = some d) => Cond.before_iff.mp (hsets d (List.mem_of_getElem? h))
  obtain ⟨zc, ezc⟩ := is_v (hs 1 _ rfl)
  have S_cs : Sta s s.heap "java/lang/String" "COMPACT_STRINGS" "Z" (.int zc) := Sta.start ezc (Or.inl (hsets _ (List.mem_of_getElem? (i := 0) rfl)))
  have n_cs : ¬ (zc = (0 : Int32)) := gotF (Cond.eq_ints ezc (Term.int_eval (0))) (not_v (hs 2 _ rfl))
  obtain ⟨na_0, nb_0⟩ := and_e hn
  obtain ⟨na_1, nb_1⟩ := and_e nb_0
  obtain ⟨na_2, nb_2⟩ := and_e nb_1
  obtain ⟨na_3, nb_3⟩ := and_e nb_2
  obtain ⟨na_4, nb_4⟩ := and_e nb_3
  obtain ⟨na_5, nb_5⟩ := and_e nb_4
  obtain ⟨na_6, nb_6⟩ := and_e nb_5
  obtain ⟨na_7, nb_7⟩ := and_e nb_6
  obtain ⟨na_8, nb_8⟩ := and_e nb_7
  obtain ⟨na_9, nb_9⟩ := and_e nb_8
  obtain ⟨na_10, nb_10⟩ := and_e nb_9
  obtain ⟨na_11, nb_11⟩ := and_e nb_10
  obtain ⟨na_12, nb_12⟩ := and_e nb_11
  obtain ⟨na_13, nb_13⟩ := and_e nb_12
  obtain ⟨na_14, nb_14⟩ := and_e nb_13
  obtain ⟨na_15, nb_15⟩ := and_e nb_14
  obtain ⟨na_16, nb_16⟩ := and_e nb_15
  obtain ⟨na_17, nb_17⟩ := and_e nb_16
  obtain ⟨na_18, nb_18⟩ := and_e nb_17
  obtain ⟨na_19, nb_19⟩ := and_e nb_18
  obtain ⟨na_20, nb_20⟩ := and_e nb_19
  obtain ⟨na_21, nb_21⟩ := and_e nb_20
  obtain ⟨na_22, nb_22⟩ := and_e nb_21
  obtain ⟨na_23, nb_23⟩ := and_e nb_22
  obtain ⟨na_24, nb_24⟩ := and_e nb_23
  have na_25 := nb_24
  have hfit : Fit s := own_fit hF
  obtain ⟨va, S_va, E_va, v_va⟩ := sta_obj (Or.inr ⟨(wd_48 hw), (wd_57 hw)⟩) na_2
  obtain ⟨ea, S_ea, E_ea, v_ea⟩ := sta_obj (Or.inr ⟨(wd_48 hw), (wd_49 hw)⟩) na_0
  obtain ⟨wa, v_wa⟩ := exa_v na_7
  have F_ea : Fld s s.heap ea "com/example/patient_ledger/patientledger/EntryType" "wireName" "Ljava/lang/String;" (.ref wa) := Fld.start (by rw [← fld_at v_ea]; exact v_wa)
  have S_wa : Str s s.heap.size s.heap wa ([(100 : Int32), (101 : Int32), (98 : Int32), (105 : Int32), (116 : Int32)] : List Int32) := str_start hfit v_wa na_7 na_8 na_9 na_10 (by decide) rfl rfl (by decide) (by decide) (fun b cl eb A => ⟨el_i na_15 eb A (by decide), el_i na_16 eb A (by decide), el_i na_17 eb A (by decide), el_i na_18 eb A (by decide), el_i na_19 eb A (by decide), trivial⟩)
  obtain ⟨eb, S_eb, E_eb, v_eb⟩ := sta_obj (Or.inr ⟨(wd_48 hw), (wd_65 hw)⟩) na_5
  obtain ⟨wb, v_wb⟩ := exa_v na_11
  have F_eb : Fld s s.heap eb "com/example/patient_ledger/patientledger/EntryType" "wireName" "Ljava/lang/String;" (.ref wb) := Fld.start (by rw [← fld_at v_eb]; exact v_wb)
  have S_wb : Str s s.heap.size s.heap wb ([(99 : Int32), (114 : Int32), (101 : Int32), (100 : Int32), (105 : Int32), (116 : Int32)] : List Int32) := str_start hfit v_wb na_11 na_12 na_13 na_14 (by decide) rfl rfl (by decide) (by decide) (fun b cl eb A => ⟨el_i na_20 eb A (by decide), el_i na_21 eb A (by decide), el_i na_22 eb A (by decide), el_i na_23 eb A (by decide), el_i na_24 eb A (by decide), el_i na_25 eb A (by decide), trivial⟩)
  obtain ⟨kv, A_va⟩ := arv_start (vs := [(.ref ea), (.ref eb)]) (dv := .null) hfit v_va na_1 na_3 (by decide) rfl (fun cl A => ⟨el_r na_4 v_ea v_va A (by decide), el_r na_6 v_eb v_va A (by decide), trivial⟩)
  have hSt : St s zc va kv ea eb wa wb := ⟨S_cs, n_cs, S_va, E_va, A_va, S_ea, F_ea, S_wa, S_eb, F_eb, S_wb⟩
  have hCV : CHv s EL s.vm s.heap := CHv.start (hEL_ hw) hcalls.1 (hsets _ (List.mem_of_getElem? (i := 2) rfl)) (wd_23 hw) (wd_2 hw)
  obtain ⟨n, o, h1, h2, h3, _, L, rfl, ⟨rfl, N⟩, -, hq⟩ := rm_law l s _ hw zc va kv ea eb wa wb i0 i1 i2 i3 s.heap s.heap.size (Nat.le_refl _) hSt (Old.start s) p e ha hc hk s m _ below hf ((Spec.applies_iff_loose hf).mp happ).1 ⟨rfl, State.Warmed39.refl s, rfl, hCV⟩ trivial
  refine ⟨n, _, h1, h2, h3, hpost _ _ _ _ _ _ ⟨Cond.after_iff.mpr rfl, Cond.after_iff.mpr (eq_i res_at (Term.int_eval (1)) rfl), trivial⟩ ⟨hq.1, hq.2.1, hq.2.2.1, (hq.2.2.2.sift fun y hy => Or.inr (N y hy)).mono (by decide) (by decide)⟩⟩
theorem main_1_1 : Claimed_1_1 := comes_1 fun _ _ _ _ _ _ h hF => ⟨h.1, hF⟩
theorem main_1_2 : Claimed_1_2 := comes_1 fun _ _ _ _ _ _ h hF => ⟨h.2.1, hF⟩
end Jvm.Pilot.@@N@@
namespace Jvm.Pilot.@@N@@
open Jvm Jvm.ClassFile Sem Op Lib Jvm.Free Jvm.Stand Jvm.Pilot.@@N@@.Jvm.D
/-! MADE BY PROGRAM (witnessworld.py) out of the Statement's table words and the real class files: 22 classes; the members and pool entries that the words name. The judged class is class 1, her method 3. -/
namespace start1
open Jvm.ClassFile
def u (s : String) : CpInfo := .utf8 (stringToUtf16 s)
/-- a pool by its gaps: so many unusable entries, then the entry; so many at the end -/
def gap : Nat → List CpInfo → List CpInfo
  | 0, r => r
  | n + 1, r => .unusable :: gap n r
def poolList (es : List (Nat × CpInfo)) (last : Nat) : List CpInfo := es.foldr (fun e r => gap e.1 (e.2 :: r)) (gap last [])
def pool (es : List (Nat × CpInfo)) (last : Nat) : Array CpInfo := ⟨poolList es last⟩
def fileOf (pool : Array CpInfo) (this : Nat) (attrs : Array Attribute := #[]) (ms : Array MethodInfo := #[]) (fl : Nat := 33) (sup : Nat := 0) (ifs : Array Nat := #[]) (fds : Array FieldInfo := #[]) : ClassFile where
  minorVersion := 0
  majorVersion := 65
  constantPool := pool
  accessFlags := fl
  thisClass := this
  superClass := sup
  interfaces := ifs
  fields := fds
  methods := ms
  attributes := attrs
def plain (name : String) (sup : Option ClassId) : Class where
  name := name
  kind := .ordinary
  loader := none
  accessFlags := 33
  super := sup
  interfaces := #[]
  cf := none
  fields := #[]
  methods := #[]
  instanceTypes := #[]
  staticTypes := #[]
  resolved := #[]
  callSites := []
  init := .initialized
  statics := none
  mirror := none

def pool0 : Array CpInfo := pool [(5, u "<init>"), (0, u "()V"), (1, .class_ 10), (1, u "java/lang/Object"), (85, u "clone"), (0, u "()Ljava/lang/Object;")] 26

def k0c0 : Code := { maxStack := 0, maxLocals := 1, code := object_method_1_code, exceptionTable := #[], attributes := #[] }
def k0m0 : Method := { name := "<init>", desc := "()V", sig := { parameters := [], returnType := none }, accessFlags := 1, code := some k0c0 }
def k0m1 : Method := { name := "clone", desc := "()Ljava/lang/Object;", sig := { parameters := [], returnType := some (.object "java/lang/Object") }, accessFlags := 260, code := none }
/-- java/lang/Object -/
def k0 : Class := { plain "java/lang/Object" none with
  accessFlags := 33
  interfaces := #[]
  cf := some (fileOf pool0 8 #[] #[{ accessFlags := 1, nameIndex := 5, descriptorIndex := 6, attributes := #[] }, { accessFlags := 260, nameIndex := 96, descriptorIndex := 97, attributes := #[] }] 33 0 #[] #[])
  fields := #[]
  methods := #[k0m0, k0m1]
  instanceTypes := #[]
  staticTypes := #[]
  resolved := Array.replicate 124 none
  statics := none }

def pool1 : Array CpInfo := pool [(2, .class_ 4), (1, u "java/lang/Object"), (0, u "<init>"), (0, u "()V"), (0, .long 255), (1, .methodref 10 11), (0, .class_ 12), (0, .nameAndType 13 14), (0, u "com/example/patient_ledger/patientledger/EntryTypeFromWireNamePinLaw"), (0, u "ch"), (0, u "(JI)C"), (0, .integer 2147483647), (0, .class_ 17), (0, u "java/lang/String"), (0, .methodref 10 19), (0, .nameAndType 20 21), (0, u "copy"), (0, u "([CI)[C"), (0, .methodref 16 23), (0, .nameAndType 5 24), (0, u "([C)V"), (0, .string 26), (0, u "debit"), (0, .methodref 16 28), (0, .nameAndType 29 30), (0, u "equals"), (0, u "(Ljava/lang/Object;)Z"), (0, .fieldref 32 33), (0, .class_ 34), (0, .nameAndType 35 36), (0, u "com/example/patient_ledger/patientledger/EntryType"), (0, u "DEBIT"), (0, u "Lcom/example/patient_ledger/patientledger/EntryType;"), (0, .string 38), (0, u "credit"), (0, .fieldref 32 40), (0, .nameAndType 41 36), (0, u "CREDIT"), (0, .methodref 32 43), (0, .nameAndType 44 45), (0, u "fromWireName"), (0, u "(Ljava/lang/String;)Lcom/example/patient_ledger/patientledger/EntryType;"), (5, u "law"), (0, u "(IJII)Z")] 2

def k1m0 : Method := { name := "<init>", desc := "()V", sig := { parameters := [], returnType := none }, accessFlags := 1, code := none }
def k1c1 : Code := { maxStack := 4, maxLocals := 3, code := method_2_code, exceptionTable := #[], attributes := #[] }
def k1m1 : Method := { name := "ch", desc := "(JI)C", sig := { parameters := [.long, .int], returnType := some .char }, accessFlags := 10, code := some k1c1 }
def k1c2 : Code := { maxStack := 4, maxLocals := 3, code := method_3_code, exceptionTable := #[], attributes := #[] }
def k1m2 : Method := { name := "copy", desc := "([CI)[C", sig := { parameters := [(.array .char), .int], returnType := some (.array .char) }, accessFlags := 10, code := some k1c2 }
def k1c3 : Code := { maxStack := 5, maxLocals := 13, code := code, exceptionTable := #[], attributes := #[] }
def k1m3 : Method := { name := "law", desc := "(IJII)Z", sig := { parameters := [.int, .long, .int, .int], returnType := some .boolean }, accessFlags := 9, code := some k1c3 }
/-- com/example/patient_ledger/patientledger/EntryTypeFromWireNamePinLaw -/
def k1 : Class := { plain "com/example/patient_ledger/patientledger/EntryTypeFromWireNamePinLaw" (some 0) with
  accessFlags := 49
  interfaces := #[]
  cf := some (fileOf pool1 10 #[] #[{ accessFlags := 1, nameIndex := 5, descriptorIndex := 6, attributes := #[] }, { accessFlags := 10, nameIndex := 13, descriptorIndex := 14, attributes := #[] }, { accessFlags := 10, nameIndex := 20, descriptorIndex := 21, attributes := #[] }, { accessFlags := 9, nameIndex := 51, descriptorIndex := 52, attributes := #[] }] 49 2 #[] #[])
  fields := #[]
  methods := #[k1m0, k1m1, k1m2, k1m3]
  instanceTypes := #[]
  staticTypes := #[]
  resolved := Array.replicate 55 none
  statics := none }

def pool2 : Array CpInfo := pool [(1, .class_ 2), (0, u "java/io/Serializable"), (0, .class_ 4), (0, u "java/lang/Object")] 2

/-- java/io/Serializable -/
def k2 : Class := { plain "java/io/Serializable" (some 0) with
  accessFlags := 1537
  interfaces := #[]
  cf := some (fileOf pool2 1 #[] #[] 1537 3 #[] #[])
  fields := #[]
  methods := #[]
  instanceTypes := #[]
  staticTypes := #[]
  resolved := Array.replicate 7 none
  statics := none }

def pool3 : Array CpInfo := pool [(1, .class_ 2), (0, u "java/lang/Comparable"), (0, .class_ 4), (0, u "java/lang/Object")] 7

/-- java/lang/Comparable -/
def k3 : Class := { plain "java/lang/Comparable" (some 0) with
  accessFlags := 1537
  interfaces := #[]
  cf := some (fileOf pool3 1 #[] #[] 1537 3 #[] #[])
  fields := #[]
  methods := #[]
  instanceTypes := #[]
  staticTypes := #[]
  resolved := Array.replicate 12 none
  statics := none }

def pool4 : Array CpInfo := pool [(2, .class_ 4), (1, u "java/lang/CharSequence"), (42, .class_ 48), (0, u "java/lang/CharSequence$1CodePointIterator"), (10, .class_ 60), (0, u "java/lang/CharSequence$1CharIterator"), (5, .class_ 67), (0, u "java/lang/Object")] 63

/-- java/lang/CharSequence -/
def k4 : Class := { plain "java/lang/CharSequence" (some 0) with
  accessFlags := 1537
  interfaces := #[]
  cf := some (fileOf pool4 2 #[.nestMembers #[47, 59]] #[] 1537 66 #[] #[])
  fields := #[]
  methods := #[]
  instanceTypes := #[]
  staticTypes := #[]
  resolved := Array.replicate 131 none
  statics := none }

def pool5 : Array CpInfo := pool [(1, .class_ 2), (0, u "java/lang/constant/Constable"), (0, .class_ 4), (0, u "java/lang/Object")] 6

/-- java/lang/constant/Constable -/
def k5 : Class := { plain "java/lang/constant/Constable" (some 0) with
  accessFlags := 1537
  interfaces := #[]
  cf := some (fileOf pool5 1 #[] #[] 1537 3 #[] #[])
  fields := #[]
  methods := #[]
  instanceTypes := #[]
  staticTypes := #[]
  resolved := Array.replicate 11 none
  statics := none }

def pool6 : Array CpInfo := pool [(1, .class_ 2), (0, u "java/lang/constant/ConstantDesc"), (0, .class_ 4), (0, u "java/lang/Object")] 32

/-- java/lang/constant/ConstantDesc -/
def k6 : Class := { plain "java/lang/constant/ConstantDesc" (some 0) with
  accessFlags := 1537
  interfaces := #[]
  cf := some (fileOf pool6 1 #[] #[] 1537 3 #[] #[])
  fields := #[]
  methods := #[]
  instanceTypes := #[]
  staticTypes := #[]
  resolved := Array.replicate 37 none
  statics := none }

def pool7 : Array CpInfo := pool [(1, .methodref 2 3), (0, .class_ 4), (0, .nameAndType 5 6), (0, u "java/lang/Object"), (0, u "<init>"), (0, u "()V"), (0, .string 8), (0, u ""), (0, .fieldref 10 11), (0, .class_ 12), (0, .nameAndType 13 14), (0, u "java/lang/String"), (0, u "value"), (0, u "[B"), (0, .fieldref 10 16), (0, .nameAndType 17 18), (0, u "coder"), (0, u "B"), (2, u "hash"), (0, u "I"), (2, u "hashIsZero"), (0, u "Z"), (0, .methodref 10 28), (0, .nameAndType 5 29), (0, u "([CIILjava/lang/Void;)V"), (8, .fieldref 10 39), (0, .nameAndType 40 26), (0, u "COMPACT_STRINGS"), (1, .class_ 44), (1, u "java/lang/StringUTF16"), (0, u "compress"), (1, .methodref 42 48), (0, .nameAndType 49 50), (0, u "coderFromArrayLen"), (0, u "([BI)B"), (56, .class_ 109), (1, u "java/lang/StringLatin1"), (67, .methodref 42 178), (0, .nameAndType 45 179), (0, u "([CII)[B"), (361, .methodref 107 542), (0, .nameAndType 543 544), (0, u "equals"), (0, u "([B[B)Z"), (28, u "(Ljava/lang/Object;)Z"), (1, .class_ 576), (0, u "java/lang/CharSequence"), (22, u "CASE_INSENSITIVE_ORDER"), (0, u "Ljava/util/Comparator;"), (409, u "([C)V"), (90, u "serialPersistentFields"), (0, u "[Ljava/io/ObjectStreamField;"), (0, .class_ 1104), (0, u "java/lang/String$CaseInsensitiveComparator"), (1, .class_ 1107), (0, u "java/io/Serializable"), (0, .class_ 1109), (0, u "java/lang/Comparable"), (0, .class_ 1111), (0, u "java/lang/constant/Constable"), (0, .class_ 1113), (0, u "java/lang/constant/ConstantDesc"), (2, u "serialVersionUID"), (0, u "J"), (3, u "REPL"), (0, u "C"), (2, u "LATIN1"), (1, u "UTF16")] 323

def k7m0 : Method := { name := "<init>", desc := "()V", sig := { parameters := [], returnType := none }, accessFlags := 1, code := none }
def k7c1 : Code := { maxStack := 5, maxLocals := 2, code := jdk_42_method_3_code, exceptionTable := #[], attributes := #[] }
def k7m1 : Method := { name := "<init>", desc := "([C)V", sig := { parameters := [(.array .char)], returnType := none }, accessFlags := 1, code := some k7c1 }
def k7c2 : Code := { maxStack := 2, maxLocals := 3, code := jdk_42_method_66_code, exceptionTable := #[], attributes := #[] }
def k7m2 : Method := { name := "equals", desc := "(Ljava/lang/Object;)Z", sig := { parameters := [(.object "java/lang/Object")], returnType := some .boolean }, accessFlags := 1, code := some k7c2 }
def k7c3 : Code := { maxStack := 4, maxLocals := 6, code := jdk_42_method_149_code, exceptionTable := #[], attributes := #[] }
def k7m3 : Method := { name := "<init>", desc := "([CIILjava/lang/Void;)V", sig := { parameters := [(.array .char), .int, .int, (.object "java/lang/Void")], returnType := none }, accessFlags := 2, code := some k7c3 }
/-- java/lang/String -/
def k7 : Class := { plain "java/lang/String" (some 0) with
  accessFlags := 49
  interfaces := #[2, 3, 4, 5, 6]
  cf := some (fileOf pool7 10 #[.nestMembers #[1103]] #[{ accessFlags := 1, nameIndex := 5, descriptorIndex := 6, attributes := #[] }, { accessFlags := 1, nameIndex := 5, descriptorIndex := 1010, attributes := #[] }, { accessFlags := 1, nameIndex := 543, descriptorIndex := 573, attributes := #[] }, { accessFlags := 2, nameIndex := 5, descriptorIndex := 29, attributes := #[] }] 49 2 #[1106, 1108, 575, 1110, 1112] #[{ accessFlags := 18, nameIndex := 13, descriptorIndex := 14, attributes := #[] }, { accessFlags := 18, nameIndex := 17, descriptorIndex := 18, attributes := #[] }, { accessFlags := 2, nameIndex := 21, descriptorIndex := 22, attributes := #[] }, { accessFlags := 2, nameIndex := 25, descriptorIndex := 26, attributes := #[] }, { accessFlags := 26, nameIndex := 1116, descriptorIndex := 1117, attributes := #[] }, { accessFlags := 24, nameIndex := 40, descriptorIndex := 26, attributes := #[] }, { accessFlags := 26, nameIndex := 1101, descriptorIndex := 1102, attributes := #[] }, { accessFlags := 26, nameIndex := 1121, descriptorIndex := 1122, attributes := #[] }, { accessFlags := 25, nameIndex := 599, descriptorIndex := 600, attributes := #[] }, { accessFlags := 24, nameIndex := 1125, descriptorIndex := 18, attributes := #[] }, { accessFlags := 24, nameIndex := 1127, descriptorIndex := 18, attributes := #[] }])
  fields := #[{ name := "value", type := (.array .byte), accessFlags := 18, slot := 0, constantValue := 0 }, { name := "coder", type := .byte, accessFlags := 18, slot := 1, constantValue := 0 }, { name := "hash", type := .int, accessFlags := 2, slot := 2, constantValue := 0 }, { name := "hashIsZero", type := .boolean, accessFlags := 2, slot := 3, constantValue := 0 }, { name := "serialVersionUID", type := .long, accessFlags := 26, slot := 0, constantValue := 0 }, { name := "COMPACT_STRINGS", type := .boolean, accessFlags := 24, slot := 1, constantValue := 0 }, { name := "serialPersistentFields", type := (.array (.object "java/io/ObjectStreamField")), accessFlags := 26, slot := 2, constantValue := 0 }, { name := "REPL", type := .char, accessFlags := 26, slot := 3, constantValue := 0 }, { name := "CASE_INSENSITIVE_ORDER", type := (.object "java/util/Comparator"), accessFlags := 25, slot := 4, constantValue := 0 }, { name := "LATIN1", type := .byte, accessFlags := 24, slot := 5, constantValue := 0 }, { name := "UTF16", type := .byte, accessFlags := 24, slot := 6, constantValue := 0 }]
  methods := #[k7m0, k7m1, k7m2, k7m3]
  instanceTypes := #[(.array .byte), .byte, .int, .boolean]
  staticTypes := #[.long, .boolean, (.array (.object "java/io/ObjectStreamField")), .char, (.object "java/util/Comparator"), .byte, .byte]
  resolved := Array.replicate 1451 none
  statics := some 0 }

def pool8 : Array CpInfo := pool [(6, .class_ 8), (1, u "java/lang/Object"), (0, u "<init>"), (0, u "()V"), (1, .class_ 14), (1, u "java/lang/StringUTF16"), (31, u "$assertionsDisabled"), (0, u "Z"), (13, u "HI_BYTE_SHIFT"), (0, u "I"), (2, u "LO_BYTE_SHIFT"), (49, .methodref 12 116), (0, .nameAndType 117 118), (0, u "compress"), (0, u "([CI[BII)I"), (3, u "([CII)[B"), (138, u "coderFromArrayLen"), (0, u "([BI)B"), (106, .class_ 371), (1, u "java/lang/StringUTF16$LinesSpliterator"), (58, u "MAX_LENGTH"), (196, .class_ 628), (0, u "java/lang/StringUTF16$CodePointsSpliterator"), (0, .class_ 630), (0, u "java/lang/StringUTF16$CharsSpliterator")] 4

def k8m0 : Method := { name := "<init>", desc := "()V", sig := { parameters := [], returnType := none }, accessFlags := 0, code := none }
def k8c1 : Code := { maxStack := 2, maxLocals := 2, code := jdk_52_method_15_code, exceptionTable := #[], attributes := #[] }
def k8m1 : Method := { name := "coderFromArrayLen", desc := "([BI)B", sig := { parameters := [(.array .byte), .int], returnType := some .byte }, accessFlags := 8, code := some k8c1 }
def k8c2 : Code := { maxStack := 5, maxLocals := 6, code := jdk_52_method_16_code, exceptionTable := #[], attributes := #[] }
def k8m2 : Method := { name := "compress", desc := "([CII)[B", sig := { parameters := [(.array .char), .int, .int], returnType := some (.array .byte) }, accessFlags := 9, code := some k8c2 }
def k8c3 : Code := { maxStack := 3, maxLocals := 7, code := jdk_52_method_21_code, exceptionTable := #[], attributes := #[] }
def k8m3 : Method := { name := "compress", desc := "([CI[BII)I", sig := { parameters := [(.array .char), .int, (.array .byte), .int, .int], returnType := some .int }, accessFlags := 9, code := some k8c3 }
/-- java/lang/StringUTF16 -/
def k8 : Class := { plain "java/lang/StringUTF16" (some 0) with
  accessFlags := 48
  interfaces := #[]
  cf := some (fileOf pool8 12 #[.nestMembers #[627, 629, 369]] #[{ accessFlags := 0, nameIndex := 9, descriptorIndex := 10, attributes := #[] }, { accessFlags := 8, nameIndex := 261, descriptorIndex := 262, attributes := #[] }, { accessFlags := 9, nameIndex := 117, descriptorIndex := 122, attributes := #[] }, { accessFlags := 9, nameIndex := 117, descriptorIndex := 118, attributes := #[] }] 48 6 #[] #[{ accessFlags := 26, nameIndex := 61, descriptorIndex := 62, attributes := #[] }, { accessFlags := 26, nameIndex := 65, descriptorIndex := 62, attributes := #[] }, { accessFlags := 24, nameIndex := 430, descriptorIndex := 62, attributes := #[] }, { accessFlags := 4120, nameIndex := 46, descriptorIndex := 47, attributes := #[] }])
  fields := #[{ name := "HI_BYTE_SHIFT", type := .int, accessFlags := 26, slot := 0, constantValue := 0 }, { name := "LO_BYTE_SHIFT", type := .int, accessFlags := 26, slot := 1, constantValue := 0 }, { name := "MAX_LENGTH", type := .int, accessFlags := 24, slot := 2, constantValue := 0 }, { name := "$assertionsDisabled", type := .boolean, accessFlags := 4120, slot := 3, constantValue := 0 }]
  methods := #[k8m0, k8m1, k8m2, k8m3]
  instanceTypes := #[]
  staticTypes := #[.int, .int, .int, .boolean]
  resolved := Array.replicate 635 none
  statics := none }

def pool9 : Array CpInfo := pool [(4, .class_ 6), (1, u "java/lang/Object"), (0, u "<init>"), (0, u "()V"), (5, .class_ 16), (1, u "java/lang/StringLatin1"), (104, u "$assertionsDisabled"), (0, u "Z"), (98, .class_ 223), (1, u "java/lang/StringLatin1$LinesSpliterator"), (57, u "equals"), (0, u "([B[B)Z"), (107, .class_ 391), (0, u "java/lang/StringLatin1$CharsSpliterator")] 3

def k9m0 : Method := { name := "<init>", desc := "()V", sig := { parameters := [], returnType := none }, accessFlags := 0, code := none }
def k9c1 : Code := { maxStack := 3, maxLocals := 3, code := jdk_43_method_13_code, exceptionTable := #[], attributes := #[] }
def k9m1 : Method := { name := "equals", desc := "([B[B)Z", sig := { parameters := [(.array .byte), (.array .byte)], returnType := some .boolean }, accessFlags := 9, code := some k9c1 }
/-- java/lang/StringLatin1 -/
def k9 : Class := { plain "java/lang/StringLatin1" (some 0) with
  accessFlags := 48
  interfaces := #[]
  cf := some (fileOf pool9 14 #[.nestMembers #[390, 221]] #[{ accessFlags := 0, nameIndex := 7, descriptorIndex := 8, attributes := #[] }, { accessFlags := 9, nameIndex := 281, descriptorIndex := 282, attributes := #[] }] 48 4 #[] #[{ accessFlags := 4120, nameIndex := 121, descriptorIndex := 122, attributes := #[] }])
  fields := #[{ name := "$assertionsDisabled", type := .boolean, accessFlags := 4120, slot := 0, constantValue := 0 }]
  methods := #[k9m0, k9m1]
  instanceTypes := #[]
  staticTypes := #[.boolean]
  resolved := Array.replicate 395 none
  statics := none }

def pool10 : Array CpInfo := pool [(2, .class_ 4), (1, u "java/lang/Enum"), (0, u "name"), (0, u "Ljava/lang/String;"), (2, u "ordinal"), (0, u "I"), (1, .class_ 14), (1, u "java/lang/Object"), (4, u "hash"), (86, .class_ 108), (1, u "java/lang/Enum$EnumDesc"), (2, .class_ 112), (0, u "java/lang/constant/Constable"), (0, .class_ 114), (0, u "java/lang/Comparable"), (0, .class_ 116), (0, u "java/io/Serializable")] 87

/-- java/lang/Enum -/
def k10 : Class := { plain "java/lang/Enum" (some 0) with
  accessFlags := 1057
  interfaces := #[5, 3, 2]
  cf := some (fileOf pool10 2 #[.nestMembers #[106]] #[] 1057 12 #[111, 113, 115] #[{ accessFlags := 18, nameIndex := 5, descriptorIndex := 6, attributes := #[] }, { accessFlags := 18, nameIndex := 9, descriptorIndex := 10, attributes := #[] }, { accessFlags := 2, nameIndex := 19, descriptorIndex := 10, attributes := #[] }])
  fields := #[{ name := "name", type := (.object "java/lang/String"), accessFlags := 18, slot := 0, constantValue := 0 }, { name := "ordinal", type := .int, accessFlags := 18, slot := 1, constantValue := 0 }, { name := "hash", type := .int, accessFlags := 2, slot := 2, constantValue := 0 }]
  methods := #[]
  instanceTypes := #[(.object "java/lang/String"), .int, .int]
  staticTypes := #[]
  resolved := Array.replicate 204 none
  statics := none }

def pool11 : Array CpInfo := pool [(1, .class_ 2), (0, u "com/example/patient_ledger/patientledger/EntryType"), (2, u "DEBIT"), (0, u "Lcom/example/patient_ledger/patientledger/EntryType;"), (2, u "CREDIT"), (0, .fieldref 1 11), (0, .nameAndType 12 13), (0, u "$VALUES"), (0, u "[Lcom/example/patient_ledger/patientledger/EntryType;"), (0, .methodref 15 16), (0, .class_ 13), (0, .nameAndType 17 18), (0, u "clone"), (0, u "()Ljava/lang/Object;"), (1, .class_ 22), (1, u "java/lang/Enum"), (6, .fieldref 1 30), (0, .nameAndType 31 32), (0, u "wireName"), (0, u "Ljava/lang/String;"), (2, u "sign"), (0, u "I"), (0, .methodref 1 38), (0, .nameAndType 39 40), (0, u "values"), (0, u "()[Lcom/example/patient_ledger/patientledger/EntryType;"), (0, .methodref 42 43), (0, .class_ 44), (0, .nameAndType 45 46), (0, u "java/lang/String"), (0, u "equals"), (0, u "(Ljava/lang/Object;)Z"), (14, u "(Ljava/lang/String;)Lcom/example/patient_ledger/patientledger/EntryType;"), (5, u "fromWireName")] 6

def k11c0 : Code := { maxStack := 1, maxLocals := 0, code := prog_6_method_1_code, exceptionTable := #[], attributes := #[] }
def k11m0 : Method := { name := "values", desc := "()[Lcom/example/patient_ledger/patientledger/EntryType;", sig := { parameters := [], returnType := some (.array (.object "com/example/patient_ledger/patientledger/EntryType")) }, accessFlags := 9, code := some k11c0 }
def k11c1 : Code := { maxStack := 2, maxLocals := 6, code := prog_6_method_6_code, exceptionTable := #[], attributes := #[] }
def k11m1 : Method := { name := "fromWireName", desc := "(Ljava/lang/String;)Lcom/example/patient_ledger/patientledger/EntryType;", sig := { parameters := [(.object "java/lang/String")], returnType := some (.object "com/example/patient_ledger/patientledger/EntryType") }, accessFlags := 8, code := some k11c1 }
/-- com/example/patient_ledger/patientledger/EntryType -/
def k11 : Class := { plain "com/example/patient_ledger/patientledger/EntryType" (some 10) with
  accessFlags := 16432
  interfaces := #[]
  cf := some (fileOf pool11 1 #[] #[{ accessFlags := 9, nameIndex := 39, descriptorIndex := 40, attributes := #[] }, { accessFlags := 8, nameIndex := 67, descriptorIndex := 61, attributes := #[] }] 16432 20 #[] #[{ accessFlags := 16409, nameIndex := 5, descriptorIndex := 6, attributes := #[] }, { accessFlags := 16409, nameIndex := 9, descriptorIndex := 6, attributes := #[] }, { accessFlags := 18, nameIndex := 31, descriptorIndex := 32, attributes := #[] }, { accessFlags := 18, nameIndex := 35, descriptorIndex := 36, attributes := #[] }, { accessFlags := 4122, nameIndex := 12, descriptorIndex := 13, attributes := #[] }])
  fields := #[{ name := "DEBIT", type := (.object "com/example/patient_ledger/patientledger/EntryType"), accessFlags := 16409, slot := 0, constantValue := 0 }, { name := "CREDIT", type := (.object "com/example/patient_ledger/patientledger/EntryType"), accessFlags := 16409, slot := 1, constantValue := 0 }, { name := "wireName", type := (.object "java/lang/String"), accessFlags := 18, slot := 3, constantValue := 0 }, { name := "sign", type := .int, accessFlags := 18, slot := 4, constantValue := 0 }, { name := "$VALUES", type := (.array (.object "com/example/patient_ledger/patientledger/EntryType")), accessFlags := 4122, slot := 2, constantValue := 0 }]
  methods := #[k11m0, k11m1]
  instanceTypes := #[(.object "java/lang/String"), .int, .int, (.object "java/lang/String"), .int]
  staticTypes := #[(.object "com/example/patient_ledger/patientledger/EntryType"), (.object "com/example/patient_ledger/patientledger/EntryType"), (.array (.object "com/example/patient_ledger/patientledger/EntryType"))]
  resolved := Array.replicate 74 none
  statics := some 1 }

def pool12 : Array CpInfo := pool [(1, .class_ 2), (0, u "java/lang/Cloneable"), (0, .class_ 4), (0, u "java/lang/Object")] 2

/-- java/lang/Cloneable -/
def k12 : Class := { plain "java/lang/Cloneable" (some 0) with
  accessFlags := 1537
  interfaces := #[]
  cf := some (fileOf pool12 1 #[] #[] 1537 3 #[] #[])
  fields := #[]
  methods := #[]
  instanceTypes := #[]
  staticTypes := #[]
  resolved := Array.replicate 7 none
  statics := none }

def pool13 : Array CpInfo := pool [(2, .class_ 4), (1, u "java/lang/Object"), (0, u "<init>"), (0, u "()V"), (17, .class_ 26), (1, u "jdk/internal/util/Preconditions"), (28, .class_ 56), (0, u "jdk/internal/util/Preconditions$4"), (57, .class_ 115), (0, u "jdk/internal/util/Preconditions$1"), (7, u "SIOOBE_FORMATTER"), (0, u "Ljava/util/function/BiFunction;"), (0, .class_ 126), (0, u "jdk/internal/util/Preconditions$2"), (3, u "AIOOBE_FORMATTER"), (0, .class_ 132), (0, u "jdk/internal/util/Preconditions$3"), (3, u "IOOBE_FORMATTER")] 57

def k13m0 : Method := { name := "<init>", desc := "()V", sig := { parameters := [], returnType := none }, accessFlags := 1, code := none }
/-- jdk/internal/util/Preconditions -/
def k13 : Class := { plain "jdk/internal/util/Preconditions" (some 0) with
  accessFlags := 33
  interfaces := #[]
  cf := some (fileOf pool13 24 #[.nestMembers #[55, 131, 125, 114]] #[{ accessFlags := 1, nameIndex := 5, descriptorIndex := 6, attributes := #[] }] 33 2 #[] #[{ accessFlags := 25, nameIndex := 123, descriptorIndex := 124, attributes := #[] }, { accessFlags := 25, nameIndex := 130, descriptorIndex := 124, attributes := #[] }, { accessFlags := 25, nameIndex := 136, descriptorIndex := 124, attributes := #[] }])
  fields := #[{ name := "SIOOBE_FORMATTER", type := (.object "java/util/function/BiFunction"), accessFlags := 25, slot := 0, constantValue := 0 }, { name := "AIOOBE_FORMATTER", type := (.object "java/util/function/BiFunction"), accessFlags := 25, slot := 1, constantValue := 0 }, { name := "IOOBE_FORMATTER", type := (.object "java/util/function/BiFunction"), accessFlags := 25, slot := 2, constantValue := 0 }]
  methods := #[k13m0]
  instanceTypes := #[]
  staticTypes := #[(.object "java/util/function/BiFunction"), (.object "java/util/function/BiFunction"), (.object "java/util/function/BiFunction")]
  resolved := Array.replicate 194 none
  statics := some 2 }

def pool14 : Array CpInfo := pool [(9, u "<init>"), (6, .class_ 18), (1, u "java/lang/Object"), (0, u "()V"), (1, .class_ 23), (1, u "jdk/internal/util/ArraysSupport"), (0, u "LOG2_ARRAY_LONG_INDEX_SCALE"), (0, u "I"), (2, u "U"), (0, u "Ljdk/internal/misc/Unsafe;"), (8, u "BIG_ENDIAN"), (0, u "Z"), (8, u "LOG2_BYTE_BIT_SIZE"), (4, u "LOG2_ARRAY_INT_INDEX_SCALE"), (54, u "JLA"), (0, u "Ljdk/internal/access/JavaLangAccess;"), (11, u "LOG2_ARRAY_BOOLEAN_INDEX_SCALE"), (9, u "LOG2_ARRAY_BYTE_INDEX_SCALE"), (5, u "LOG2_ARRAY_CHAR_INDEX_SCALE"), (5, u "LOG2_ARRAY_SHORT_INDEX_SCALE"), (18, u "LOG2_ARRAY_FLOAT_INDEX_SCALE"), (24, u "LOG2_ARRAY_DOUBLE_INDEX_SCALE"), (89, u "T_BOOLEAN"), (2, u "T_CHAR"), (1, u "T_FLOAT"), (1, u "T_DOUBLE"), (1, u "T_BYTE"), (1, u "T_SHORT"), (1, u "T_INT"), (1, u "T_LONG"), (1, u "SOFT_MAX_ARRAY_LENGTH")] 83

def k14m0 : Method := { name := "<init>", desc := "()V", sig := { parameters := [], returnType := none }, accessFlags := 2, code := none }
/-- jdk/internal/util/ArraysSupport -/
def k14 : Class := { plain "jdk/internal/util/ArraysSupport" (some 0) with
  accessFlags := 33
  interfaces := #[]
  cf := some (fileOf pool14 21 #[] #[{ accessFlags := 2, nameIndex := 9, descriptorIndex := 19, attributes := #[] }] 33 16 #[] #[{ accessFlags := 24, nameIndex := 28, descriptorIndex := 29, attributes := #[] }, { accessFlags := 26, nameIndex := 38, descriptorIndex := 39, attributes := #[] }, { accessFlags := 25, nameIndex := 121, descriptorIndex := 25, attributes := #[] }, { accessFlags := 25, nameIndex := 131, descriptorIndex := 25, attributes := #[] }, { accessFlags := 25, nameIndex := 137, descriptorIndex := 25, attributes := #[] }, { accessFlags := 25, nameIndex := 143, descriptorIndex := 25, attributes := #[] }, { accessFlags := 25, nameIndex := 53, descriptorIndex := 25, attributes := #[] }, { accessFlags := 25, nameIndex := 24, descriptorIndex := 25, attributes := #[] }, { accessFlags := 25, nameIndex := 162, descriptorIndex := 25, attributes := #[] }, { accessFlags := 25, nameIndex := 187, descriptorIndex := 25, attributes := #[] }, { accessFlags := 26, nameIndex := 48, descriptorIndex := 25, attributes := #[] }, { accessFlags := 25, nameIndex := 277, descriptorIndex := 25, attributes := #[] }, { accessFlags := 25, nameIndex := 280, descriptorIndex := 25, attributes := #[] }, { accessFlags := 25, nameIndex := 282, descriptorIndex := 25, attributes := #[] }, { accessFlags := 25, nameIndex := 284, descriptorIndex := 25, attributes := #[] }, { accessFlags := 25, nameIndex := 286, descriptorIndex := 25, attributes := #[] }, { accessFlags := 25, nameIndex := 288, descriptorIndex := 25, attributes := #[] }, { accessFlags := 25, nameIndex := 290, descriptorIndex := 25, attributes := #[] }, { accessFlags := 25, nameIndex := 292, descriptorIndex := 25, attributes := #[] }, { accessFlags := 26, nameIndex := 108, descriptorIndex := 109, attributes := #[] }, { accessFlags := 25, nameIndex := 294, descriptorIndex := 25, attributes := #[] }])
  fields := #[{ name := "U", type := (.object "jdk/internal/misc/Unsafe"), accessFlags := 24, slot := 0, constantValue := 0 }, { name := "BIG_ENDIAN", type := .boolean, accessFlags := 26, slot := 1, constantValue := 0 }, { name := "LOG2_ARRAY_BOOLEAN_INDEX_SCALE", type := .int, accessFlags := 25, slot := 2, constantValue := 0 }, { name := "LOG2_ARRAY_BYTE_INDEX_SCALE", type := .int, accessFlags := 25, slot := 3, constantValue := 0 }, { name := "LOG2_ARRAY_CHAR_INDEX_SCALE", type := .int, accessFlags := 25, slot := 4, constantValue := 0 }, { name := "LOG2_ARRAY_SHORT_INDEX_SCALE", type := .int, accessFlags := 25, slot := 5, constantValue := 0 }, { name := "LOG2_ARRAY_INT_INDEX_SCALE", type := .int, accessFlags := 25, slot := 6, constantValue := 0 }, { name := "LOG2_ARRAY_LONG_INDEX_SCALE", type := .int, accessFlags := 25, slot := 7, constantValue := 0 }, { name := "LOG2_ARRAY_FLOAT_INDEX_SCALE", type := .int, accessFlags := 25, slot := 8, constantValue := 0 }, { name := "LOG2_ARRAY_DOUBLE_INDEX_SCALE", type := .int, accessFlags := 25, slot := 9, constantValue := 0 }, { name := "LOG2_BYTE_BIT_SIZE", type := .int, accessFlags := 26, slot := 10, constantValue := 0 }, { name := "T_BOOLEAN", type := .int, accessFlags := 25, slot := 11, constantValue := 0 }, { name := "T_CHAR", type := .int, accessFlags := 25, slot := 12, constantValue := 0 }, { name := "T_FLOAT", type := .int, accessFlags := 25, slot := 13, constantValue := 0 }, { name := "T_DOUBLE", type := .int, accessFlags := 25, slot := 14, constantValue := 0 }, { name := "T_BYTE", type := .int, accessFlags := 25, slot := 15, constantValue := 0 }, { name := "T_SHORT", type := .int, accessFlags := 25, slot := 16, constantValue := 0 }, { name := "T_INT", type := .int, accessFlags := 25, slot := 17, constantValue := 0 }, { name := "T_LONG", type := .int, accessFlags := 25, slot := 18, constantValue := 0 }, { name := "JLA", type := (.object "jdk/internal/access/JavaLangAccess"), accessFlags := 26, slot := 19, constantValue := 0 }, { name := "SOFT_MAX_ARRAY_LENGTH", type := .int, accessFlags := 25, slot := 20, constantValue := 0 }]
  methods := #[k14m0]
  instanceTypes := #[]
  staticTypes := #[(.object "jdk/internal/misc/Unsafe"), .boolean, .int, .int, .int, .int, .int, .int, .int, .int, .int, .int, .int, .int, .int, .int, .int, .int, .int, (.object "jdk/internal/access/JavaLangAccess"), .int]
  resolved := Array.replicate 378 none
  statics := none }

/-- the primitive byte -/
def k15 : Class := { plain "byte" none with kind := .primitive 'B', accessFlags := 0x411 }
/-- [B -/
def k16 : Class := { plain "[B" (some 0) with kind := .array 15 .byte, interfaces := #[12, 2], accessFlags := 1041 }

/-- the primitive char -/
def k17 : Class := { plain "char" none with kind := .primitive 'C', accessFlags := 0x411 }
/-- [C -/
def k18 : Class := { plain "[C" (some 0) with kind := .array 17 .char, interfaces := #[12, 2], accessFlags := 1041 }

/-- the primitive int -/
def k19 : Class := { plain "int" none with kind := .primitive 'I', accessFlags := 0x411 }
/-- [I -/
def k20 : Class := { plain "[I" (some 0) with kind := .array 19 .int, interfaces := #[12, 2], accessFlags := 1041 }

/-- [Lcom/example/patient_ledger/patientledger/EntryType; -/
def k21 : Class := { plain "[Lcom/example/patient_ledger/patientledger/EntryType;" (some 0) with kind := .array 11 (.object "com/example/patient_ledger/patientledger/EntryType"), interfaces := #[12, 2], accessFlags := 1041 }

def heap : Heap := #[{ cls := 7, slots := #[.long 0, .int 1, .null, .int 0, .null, .int 0, .int 0], vm := .statics 7 },
  { cls := 11, slots := #[.ref 4, .ref 5, .ref 3], vm := .statics 11 },
  { cls := 13, slots := #[.null, .null, .null], vm := .statics 13 },
  { cls := 21, slots := #[.ref 4, .ref 5], vm := .none },
  { cls := 11, slots := #[.null, .int 0, .int 0, .ref 6, .int (-1)], vm := .none },
  { cls := 11, slots := #[.null, .int 1, .int 0, .ref 7, .int (1)], vm := .none },
  { cls := 7, slots := #[.ref 8, .int 0, .int 0, .int 0], vm := .none },
  { cls := 7, slots := #[.ref 9, .int 0, .int 0, .int 0], vm := .none },
  { cls := 16, slots := #[.int 100, .int 101, .int 98, .int 105, .int 116], vm := .none },
  { cls := 16, slots := #[.int 99, .int 114, .int 101, .int 100, .int 105, .int 116], vm := .none }]
def classes : Array Class := #[k0, k1, k2, k3, k4, k5, k6, k7, k8, k9, k10, k11, k12, k13, k14, k15, k16, k17, k18, k19, k20, k21]
def interned : List (Array UInt16 × Addr) := []
def slotsUsed : Nat := 44
def theMethod : MethodId := ⟨1, 3⟩
def args0 : Array Value := #[.int 1, .long 5, .int 2, .int 65]
def aboutOver (below : List Frame) : State where
  vm := { classes := classes, interned := interned.toArray }
  heap := heap
  slotsUsed := slotsUsed
  threads := #[{ frames := .invoking theMethod args0 :: below }]
def below0 : List Frame := [.native { method := ⟨0, 0⟩, args := #[] }]
def about1 : State := aboutOver below0
def p0 : Program := .bare "" "" ""
def e0 : Env := launch0.env 0 0 0
theorem w_frames : about1.frames = Frame.invoking theMethod args0 :: below0 := rfl
set_option maxRecDepth 65536 in
theorem w_args : argsFit about1.vm theMethod args0 = true := by decide +kernel
set_option maxRecDepth 65536 in
theorem w_heap : heapFits about1 = true := by decide +kernel
set_option maxRecDepth 65536 in
theorem w_runnable : about1.curStatus? = some .runnable := by decide +kernel
set_option maxRecDepth 65536 in
theorem w_alone : about1.alone = true := by decide +kernel
set_option maxRecDepth 65536 in
theorem w_named : about1.methodNamed? x = some theMethod := by decide +kernel
set_option maxRecDepth 65536 in
theorem w_hears : about1.hears theMethod below0 = true := by decide +kernel
set_option maxRecDepth 65536 in
theorem w_ripe : about1.ripe theMethod args0 below0 = true := by decide +kernel
theorem w_running : about1.status = .running := rfl
set_option maxRecDepth 65536 in
theorem w_room : about1.hasRoom e0.platform room_1 = true :=
  launch0.hasRoom_least _ room_1 (by decide +kernel) (by decide +kernel) (by decide +kernel) (by decide +kernel) (by decide +kernel) (by decide +kernel)
theorem allAtoms_all (ts : List Jvm.Cond) (a : Array Jvm.Value) (st : Jvm.State) : (allAtoms ts).before a st = ts.all (fun c => c.before a st) := by
  induction ts with
  | nil => rfl
  | cons c t ih =>
    show (Jvm.Cond.and c (allAtoms t)).before a st = _
    rw [Jvm.Cond.before_and, ih, List.all_cons]
def words1 : List Jvm.Cond := Jvm.Cond.code x code maxLocals ret :: tables_1
/-- a 'code' word, met by the world's own term for the bytes: nothing is compared byte by byte -/
theorem code_word {y : MethodName} {bytes : ByteArray} {mx : Nat} {rt : Option FieldType} {a : Array Value} {s : State} {m : MethodId} {meth : Method} {c : Code} (h1 : s.methodNamed? y = some m) (h2 : s.vm.method? m = some meth) (h3 : meth.code = some c) (h4 : c.code = bytes)
    (h5 : (c.maxLocals == mx && c.exceptionTable.isEmpty && decide (c.maxStack ≤ mostOperands) && decide (meth.sig.returnType = rt) && !meth.locks && decide (parseMethodDescriptor y.desc = some meth.sig)) = true) : (Jvm.Cond.code y bytes mx rt).before a s = true := by
  simp only [Bool.and_eq_true, beq_iff_eq, Bool.not_eq_true', decide_eq_true_eq] at h5
  obtain ⟨⟨⟨⟨⟨g1, g2⟩, g3⟩, g4⟩, g5⟩, g6⟩ := h5
  simp [Cond.before, Cond.holds, Cond.value, h1, h2, h3, h4, g1, g2, g3, g4, g5, g6]
def isCode : Jvm.Cond → Bool
  | .code _ _ _ _ => true
  | _ => false
theorem all_split {L : List Jvm.Cond} {P : Jvm.Cond → Bool} (h1 : L.all (fun c => isCode c || P c) = true) (h2 : ∀ c ∈ L.filter isCode, P c = true) : L.all P = true := by
  refine List.all_eq_true.mpr fun c hc => ?_
  have h := List.all_eq_true.mp h1 c hc
  rcases Bool.eq_false_or_eq_true (isCode c) with hi | hi
  · exact h2 c (List.mem_filter.mpr ⟨hc, hi⟩)
  · simpa [hi] using h
set_option maxRecDepth 65536 in
theorem w_c0 : (Jvm.Cond.code x code maxLocals ret).before args0 about1 = true := code_word (m := ⟨1, 3⟩) (meth := k1m3) (c := k1c3) (by decide +kernel) rfl rfl rfl (by decide +kernel)
set_option maxRecDepth 65536 in
theorem w_c1 : (Jvm.Cond.code ({ cls := "com/example/patient_ledger/patientledger/EntryTypeFromWireNamePinLaw", name := "copy", desc := "([CI)[C" } : Jvm.MethodName) method_3_code (3 : Nat) (Option.some (Jvm.ClassFile.FieldType.array Jvm.ClassFile.FieldType.char))).before args0 about1 = true := code_word (m := ⟨1, 2⟩) (meth := k1m2) (c := k1c2) (by decide +kernel) rfl rfl rfl (by decide +kernel)
set_option maxRecDepth 65536 in
theorem w_c2 : (Jvm.Cond.code ({ cls := "java/lang/String", name := "<init>", desc := "([C)V" } : Jvm.MethodName) jdk_42_method_3_code (2 : Nat) (Option.none : Option Jvm.ClassFile.FieldType)).before args0 about1 = true := code_word (m := ⟨7, 1⟩) (meth := k7m1) (c := k7c1) (by decide +kernel) rfl rfl rfl (by decide +kernel)
set_option maxRecDepth 65536 in
theorem w_c3 : (Jvm.Cond.code ({ cls := "java/lang/String", name := "<init>", desc := "([CIILjava/lang/Void;)V" } : Jvm.MethodName) jdk_42_method_149_code (6 : Nat) (Option.none : Option Jvm.ClassFile.FieldType)).before args0 about1 = true := code_word (m := ⟨7, 3⟩) (meth := k7m3) (c := k7c3) (by decide +kernel) rfl rfl rfl (by decide +kernel)
set_option maxRecDepth 65536 in
theorem w_c4 : (Jvm.Cond.code ({ cls := "java/lang/Object", name := "<init>", desc := "()V" } : Jvm.MethodName) object_method_1_code (1 : Nat) (Option.none : Option Jvm.ClassFile.FieldType)).before args0 about1 = true := code_word (m := ⟨0, 0⟩) (meth := k0m0) (c := k0c0) (by decide +kernel) rfl rfl rfl (by decide +kernel)
set_option maxRecDepth 65536 in
theorem w_c5 : (Jvm.Cond.code ({ cls := "java/lang/StringUTF16", name := "compress", desc := "([CII)[B" } : Jvm.MethodName) jdk_52_method_16_code (6 : Nat) (Option.some (Jvm.ClassFile.FieldType.array Jvm.ClassFile.FieldType.byte))).before args0 about1 = true := code_word (m := ⟨8, 2⟩) (meth := k8m2) (c := k8c2) (by decide +kernel) rfl rfl rfl (by decide +kernel)
set_option maxRecDepth 65536 in
theorem w_c6 : (Jvm.Cond.code ({ cls := "java/lang/StringUTF16", name := "compress", desc := "([CI[BII)I" } : Jvm.MethodName) jdk_52_method_21_code (7 : Nat) (Option.some Jvm.ClassFile.FieldType.int)).before args0 about1 = true := code_word (m := ⟨8, 3⟩) (meth := k8m3) (c := k8c3) (by decide +kernel) rfl rfl rfl (by decide +kernel)
set_option maxRecDepth 65536 in
theorem w_c7 : (Jvm.Cond.code ({ cls := "java/lang/StringUTF16", name := "coderFromArrayLen", desc := "([BI)B" } : Jvm.MethodName) jdk_52_method_15_code (2 : Nat) (Option.some Jvm.ClassFile.FieldType.byte)).before args0 about1 = true := code_word (m := ⟨8, 1⟩) (meth := k8m1) (c := k8c1) (by decide +kernel) rfl rfl rfl (by decide +kernel)
set_option maxRecDepth 65536 in
theorem w_c8 : (Jvm.Cond.code ({ cls := "java/lang/String", name := "equals", desc := "(Ljava/lang/Object;)Z" } : Jvm.MethodName) jdk_42_method_66_code (3 : Nat) (Option.some Jvm.ClassFile.FieldType.boolean)).before args0 about1 = true := code_word (m := ⟨7, 2⟩) (meth := k7m2) (c := k7c2) (by decide +kernel) rfl rfl rfl (by decide +kernel)
set_option maxRecDepth 65536 in
theorem w_c9 : (Jvm.Cond.code ({ cls := "java/lang/StringLatin1", name := "equals", desc := "([B[B)Z" } : Jvm.MethodName) jdk_43_method_13_code (3 : Nat) (Option.some Jvm.ClassFile.FieldType.boolean)).before args0 about1 = true := code_word (m := ⟨9, 1⟩) (meth := k9m1) (c := k9c1) (by decide +kernel) rfl rfl rfl (by decide +kernel)
set_option maxRecDepth 65536 in
theorem w_c10 : (Jvm.Cond.code ({ cls := "com/example/patient_ledger/patientledger/EntryType", name := "fromWireName", desc := "(Ljava/lang/String;)Lcom/example/patient_ledger/patientledger/EntryType;" } : Jvm.MethodName) prog_6_method_6_code (6 : Nat) (Option.some (Jvm.ClassFile.FieldType.object "com/example/patient_ledger/patientledger/EntryType"))).before args0 about1 = true := code_word (m := ⟨11, 1⟩) (meth := k11m1) (c := k11c1) (by decide +kernel) rfl rfl rfl (by decide +kernel)
set_option maxRecDepth 65536 in
theorem w_c11 : (Jvm.Cond.code ({ cls := "com/example/patient_ledger/patientledger/EntryType", name := "values", desc := "()[Lcom/example/patient_ledger/patientledger/EntryType;" } : Jvm.MethodName) prog_6_method_1_code (0 : Nat) (Option.some (Jvm.ClassFile.FieldType.array (Jvm.ClassFile.FieldType.object "com/example/patient_ledger/patientledger/EntryType")))).before args0 about1 = true := code_word (m := ⟨11, 0⟩) (meth := k11m0) (c := k11c0) (by decide +kernel) rfl rfl rfl (by decide +kernel)
set_option maxRecDepth 65536 in
theorem w_c12 : (Jvm.Cond.code ({ cls := "com/example/patient_ledger/patientledger/EntryTypeFromWireNamePinLaw", name := "ch", desc := "(JI)C" } : Jvm.MethodName) method_2_code (3 : Nat) (Option.some Jvm.ClassFile.FieldType.char)).before args0 about1 = true := code_word (m := ⟨1, 1⟩) (meth := k1m1) (c := k1c1) (by decide +kernel) rfl rfl rfl (by decide +kernel)
def codes1 : List Jvm.Cond := [Jvm.Cond.code x code maxLocals ret, Jvm.Cond.code ({ cls := "com/example/patient_ledger/patientledger/EntryTypeFromWireNamePinLaw", name := "copy", desc := "([CI)[C" } : Jvm.MethodName) method_3_code (3 : Nat) (Option.some (Jvm.ClassFile.FieldType.array Jvm.ClassFile.FieldType.char)), Jvm.Cond.code ({ cls := "java/lang/String", name := "<init>", desc := "([C)V" } : Jvm.MethodName) jdk_42_method_3_code (2 : Nat) (Option.none : Option Jvm.ClassFile.FieldType), Jvm.Cond.code ({ cls := "java/lang/String", name := "<init>", desc := "([CIILjava/lang/Void;)V" } : Jvm.MethodName) jdk_42_method_149_code (6 : Nat) (Option.none : Option Jvm.ClassFile.FieldType), Jvm.Cond.code ({ cls := "java/lang/Object", name := "<init>", desc := "()V" } : Jvm.MethodName) object_method_1_code (1 : Nat) (Option.none : Option Jvm.ClassFile.FieldType), Jvm.Cond.code ({ cls := "java/lang/StringUTF16", name := "compress", desc := "([CII)[B" } : Jvm.MethodName) jdk_52_method_16_code (6 : Nat) (Option.some (Jvm.ClassFile.FieldType.array Jvm.ClassFile.FieldType.byte)), Jvm.Cond.code ({ cls := "java/lang/StringUTF16", name := "compress", desc := "([CI[BII)I" } : Jvm.MethodName) jdk_52_method_21_code (7 : Nat) (Option.some Jvm.ClassFile.FieldType.int), Jvm.Cond.code ({ cls := "java/lang/StringUTF16", name := "coderFromArrayLen", desc := "([BI)B" } : Jvm.MethodName) jdk_52_method_15_code (2 : Nat) (Option.some Jvm.ClassFile.FieldType.byte), Jvm.Cond.code ({ cls := "java/lang/String", name := "equals", desc := "(Ljava/lang/Object;)Z" } : Jvm.MethodName) jdk_42_method_66_code (3 : Nat) (Option.some Jvm.ClassFile.FieldType.boolean), Jvm.Cond.code ({ cls := "java/lang/StringLatin1", name := "equals", desc := "([B[B)Z" } : Jvm.MethodName) jdk_43_method_13_code (3 : Nat) (Option.some Jvm.ClassFile.FieldType.boolean), Jvm.Cond.code ({ cls := "com/example/patient_ledger/patientledger/EntryType", name := "fromWireName", desc := "(Ljava/lang/String;)Lcom/example/patient_ledger/patientledger/EntryType;" } : Jvm.MethodName) prog_6_method_6_code (6 : Nat) (Option.some (Jvm.ClassFile.FieldType.object "com/example/patient_ledger/patientledger/EntryType")), Jvm.Cond.code ({ cls := "com/example/patient_ledger/patientledger/EntryType", name := "values", desc := "()[Lcom/example/patient_ledger/patientledger/EntryType;" } : Jvm.MethodName) prog_6_method_1_code (0 : Nat) (Option.some (Jvm.ClassFile.FieldType.array (Jvm.ClassFile.FieldType.object "com/example/patient_ledger/patientledger/EntryType"))), Jvm.Cond.code ({ cls := "com/example/patient_ledger/patientledger/EntryTypeFromWireNamePinLaw", name := "ch", desc := "(JI)C" } : Jvm.MethodName) method_2_code (3 : Nat) (Option.some Jvm.ClassFile.FieldType.char)]
set_option maxRecDepth 65536 in
theorem codes_eq : words1.filter isCode = codes1 := rfl
theorem w_codes : ∀ c ∈ words1.filter isCode, c.before args0 about1 = true := by
  rw [codes_eq]
  intro c hc
  simp only [codes1, List.mem_cons, List.not_mem_nil, or_false] at hc
  rcases hc with rfl | rfl | rfl | rfl | rfl | rfl | rfl | rfl | rfl | rfl | rfl | rfl | rfl
  · exact w_c0
  · exact w_c1
  · exact w_c2
  · exact w_c3
  · exact w_c4
  · exact w_c5
  · exact w_c6
  · exact w_c7
  · exact w_c8
  · exact w_c9
  · exact w_c10
  · exact w_c11
  · exact w_c12
set_option maxRecDepth 65536 in
theorem w_t1 : (words1.take 24).all (fun c => isCode c || c.before args0 about1) = true := by decide +kernel
set_option maxRecDepth 65536 in
theorem w_t2 : ((words1.drop 24).take 24).all (fun c => isCode c || c.before args0 about1) = true := by decide +kernel
set_option maxRecDepth 65536 in
theorem w_t3 : (((words1.drop 24).drop 24).take 24).all (fun c => isCode c || c.before args0 about1) = true := by decide +kernel
set_option maxRecDepth 65536 in
theorem w_t4 : (((words1.drop 24).drop 24).drop 24).all (fun c => isCode c || c.before args0 about1) = true := by decide +kernel
theorem w_tables : (allAtoms (Jvm.Cond.code x code maxLocals ret :: tables_1)).before args0 about1 = true := by
  rw [allAtoms_all]
  show words1.all (fun c => c.before args0 about1) = true
  refine all_split ?_ w_codes
  rw [← List.take_append_drop 24 words1, List.all_append, w_t1, ← List.take_append_drop 24 (words1.drop 24), List.all_append, w_t2, ← List.take_append_drop 24 ((words1.drop 24).drop 24), List.all_append, w_t3, w_t4]
  rfl
set_option maxRecDepth 65536 in
theorem w_rest : rest_1_c.before args0 about1 = true := by decide +kernel
set_option maxRecDepth 65536 in
theorem w_case : (Jvm.Cond.and given_1 narrow_1).before args0 about1 = true := by decide +kernel
set_option maxRecDepth 65536 in
theorem w_consts : constsHeld consts_1 about1 := Jvm.Lit.constsHeldB_iff.mp (by decide +kernel)
theorem w_applies : (headSpec (Jvm.Cond.code x code maxLocals ret :: tables_1) room_1).applies x e0.platform about1 = true :=
  (Spec.applies_iff w_frames).mpr ⟨w_running, w_runnable, w_alone, w_named, w_hears, w_ripe, w_room, w_tables⟩
theorem atStart : AtStart classFile x code maxLocals ret World_1 tables_1 room_1 Calls_1 rest_1 Pre_1 launch0 p0 e0 about1 theMethod args0 below0 :=
  ⟨lists_1, trivial, launch0.admits_env _ _ _, launch0.least_env, fairChoices_fair.cas, fairChoices_fair.clock, w_frames, w_args, w_heap, w_applies, ⟨w_consts, trivial⟩, w_rest, w_case⟩
end start1
theorem witness_1 : WitnessClaimed_1 := ⟨start1.p0, start1.e0, start1.about1, start1.theMethod, start1.args0, start1.below0, start1.atStart⟩
end Jvm.Pilot.@@N@@
